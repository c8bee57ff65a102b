/-
  'ZZPut' AND 'ZZRemove': a box, the method, its three fields.
-/
import Derived.Test.Qxb6600479aPut2
namespace Go.Proofs.Qxb6600479a.Scr
open Go.RowKit

/-- How a call that hands back a line's fields ends. -/
def LnRes (B : Nat) (w : World) (sz : Nat) (ma : Option Addr) (fill : Int) (C : Nat → Int) (S : Nat → ByteArray) (e : Ending) (w' : World) : Prop :=
  ∃ ca cc ma' mn mc, e = .returned (.tuple #[.slice ca sz cc, .slice ma' mn mc, .int .i32 fill]) ∧ Own B w' 21 ca sz cc (runes C) ∧ Own B w' 9 ma' mn mc (strs S) ∧ (ma' = none ↔ ma = none) ∧ (ma' = none ∨ mn = sz) ∧ Below B w w'

theorem ln_box {B : Nat} {w : World} {ca : Option Addr} {cn cc : Nat} {ma : Option Addr} {mn mc : Nat} (fill : Int) {C : Nat → Int} {S : Nat → ByteArray} (hB : B ≤ w.heap.size) (h1 : Own B w 21 ca cn cc (runes C)) (h2 : Own B w 9 ma mn mc (strs S)) (hap : ∀ g m, ca = some ⟨g, 0, none⟩ → ma = some ⟨m, 0, none⟩ → g ≠ m) :
    Ln B (w.alloc (.cells #[.slice ca cn cc, .slice ma mn mc, .int .i32 fill] 39)) w.heap.size ca cn cc ma mn mc fill C S := by
  refine ⟨hB, ⟨_, heap_alloc_new w _, rfl, fun j hj => ?_⟩, h1.same fun g e => ?_, h2.same fun g e => ?_, ⟨fun g e => ?_, fun g e => ?_, hap⟩⟩
  · match j, hj with
    | 0, _ => rfl
    | 1, _ => rfl
    | 2, _ => rfl
  · exact heap_alloc_old w _ (h1.lt e)
  · exact heap_alloc_old w _ (h2.lt e)
  · have := h1.lt e; omega
  · have := h2.lt e; omega

theorem Own.drewN {B : Nat} {w : World} {t : TypeId} {a : Option Addr} {n c : Nat} {f : Nat → Value} (h : Own B w t a n c f) (q : Nat) : Own B (w.drewN q) t a n c f := h.same fun _ _ => rfl

set_option maxRecDepth 100000 in
set_option maxHeartbeats 1000000 in
theorem zzPut_any (B : Nat) (w : World) (ca : Option Addr) (cn : Nat) (ma : Option Addr) (mn : Nat) (fill : Int) (C : Nat → Int) (S : Nat → ByteArray) (x r wd n : Int) (sz : Nat) (f2 : Int) (C2 : Nat → Int) (S2 : Nat → ByteArray) (hB : B ≤ w.heap.size) (h1 : Own B w 21 ca cn cn (runes C)) (h2 : Own B w 9 ma mn mn (strs S)) (hap : ∀ g m, ca = some ⟨g, 0, none⟩ → ma = some ⟨m, 0, none⟩ → g ≠ m)
    (hput : ∀ w1 bx, Ln B w1 bx ca cn cn ma mn mn fill C S → Calls Try.prog 26 #[.pointer (some ⟨bx, 0, none⟩), .int .i64 x, .int .i32 r, .int .i64 wd, .int .i64 n] w1 fun e w' => PutEnd B w1 bx sz ma f2 C2 S2 e w') :
    Calls Try.prog 14 #[.slice ca cn cn, .slice ma mn mn, .int .i32 fill, .int .i64 x, .int .i32 r, .int .i64 wd, .int .i64 n] w fun e w' => LnRes B w sz ma f2 C2 S2 e w' := by
  have hc := hput _ _ (ln_box fill hB h1 h2 hap)
  have hbe : Below B w (w.alloc (.cells #[.slice ca cn cn, .slice ma mn mn, .int .i32 fill] 39)) := (Below.refl _ _).alloc hB _
  clear hput h1 h2 hap
  go_enter Try.func14, Try.ntmps14
  go_wp2_with (go_at_call 26; refine hc.mono ?_; rintro e w1 ⟨ca2, cc2, ma2, mn2, mc2, rfl, l2, hm2, hf2, hb2⟩; obtain ⟨b0, b1, b2⟩ := l2.facts; have hbx := l2.bel; have k1 := l2.cells; have k2 := l2.marks; have hb3 := hbe.trans hb2; clear l2 hb2 hbe hc)
  go_quiet (fail)
  go_wp2
  go_ret3
  exact ⟨_, _, _, _, _, rfl, k1.drewN _, k2.drewN _, hm2, hf2, below_drewN hb3 _⟩
end Go.Proofs.Qxb6600479a.Scr
