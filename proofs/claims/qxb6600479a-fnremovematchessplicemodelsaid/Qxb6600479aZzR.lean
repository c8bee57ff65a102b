/-
  'ZZRemove'.
-/
import Derived.Test.Qxb6600479aRemove
import Derived.Test.Qxb6600479aZz
import Derived.Test.Qxb6600479aModel
namespace Go.Proofs.Qxb6600479a.Scr
open Go.RowKit

/-- How 'ZZRemove' ends. -/
def RemRes (B : Nat) (w : World) (sz : Nat) (ma : Option Addr) (fill : Int) (RC : Nat → Int) (RS : Nat → ByteArray) (e : Ending) (w' : World) : Prop :=
  ∃ ca cc ma' mn mc, e = .returned (.tuple #[.slice ca sz cc, .slice ma' mn mc, .int .i32 fill]) ∧ Seen w' ca sz (runes RC) ∧ Seen w' ma' mn (strs RS) ∧ (ma' = none ↔ ma = none) ∧ (ma' = none → mn = 0) ∧ (ma' = none ∨ mn = sz) ∧ Below B w w'

theorem ln_res {B : Nat} {w : World} {bx : Nat} {ca : Option Addr} {sz cc : Nat} {ma : Option Addr} {mn mc : Nat} {fill : Int} {C RC : Nat → Int} {S RS : Nat → ByteArray} (h : Ln B w bx ca sz cc ma mn mc fill C S) (h1 : ∀ i, i < sz → C i = RC i) (h2 : ∀ i, i < sz → S i = RS i) (hf : ma = none ∨ mn = sz) (q : Nat) :
    Seen (w.drewN q) ca sz (runes RC) ∧ Seen (w.drewN q) ma mn (strs RS) ∧ (ma = none → mn = 0) := by
  refine ⟨(h.cells.drewN q).seen.congr fun i hi => by unfold runes; rw [h1 i hi], ?_, fun e => ?_⟩
  · rcases hf with rfl | rfl
    · rcases h.marks with ⟨_, rfl, _⟩ | ⟨_, e, _⟩
      · exact .inl rfl
      · cases e
    · exact (h.marks.drewN q).seen.congr fun i hi => by unfold strs; rw [h2 i hi]
  · rcases h.marks with ⟨_, h3, _⟩ | ⟨_, h3, _⟩
    · exact h3
    · rw [e] at h3; cases h3

set_option maxRecDepth 100000 in
set_option maxHeartbeats 1000000 in
theorem zzRemove_any (B : Nat) (w : World) (ca : Option Addr) (cn : Nat) (ma : Option Addr) (mn : Nat) (fill : Int) (C : Nat → Int) (S : Nat → ByteArray) (x n : Int) (sz : Nat) (f2 : Int) (C2 : Nat → Int) (S2 : Nat → ByteArray) (hB : B ≤ w.heap.size) (h1 : Own B w 21 ca cn cn (runes C)) (h2 : Own B w 9 ma mn mn (strs S)) (hap : ∀ g m, ca = some ⟨g, 0, none⟩ → ma = some ⟨m, 0, none⟩ → g ≠ m)
    (hrem : ∀ w1 bx, Ln B w1 bx ca cn cn ma mn mn fill C S → Calls Try.prog 27 #[.pointer (some ⟨bx, 0, none⟩), .int .i64 x, .int .i64 n] w1 fun e w' => RemEnd B w1 bx sz ma f2 C2 S2 e w') :
    Calls Try.prog 22 #[.slice ca cn cn, .slice ma mn mn, .int .i32 fill, .int .i64 x, .int .i64 n] w fun e w' => RemRes B w sz ma f2 C2 S2 e w' := by
  have hc := hrem _ _ (ln_box fill hB h1 h2 hap)
  have hbe : Below B w (w.alloc (.cells #[.slice ca cn cn, .slice ma mn mn, .int .i32 fill] 39)) := (Below.refl _ _).alloc hB _
  clear hrem h1 h2 hap
  go_enter Try.func22, Try.ntmps22
  go_wp2_with (go_at_call 27; refine hc.mono ?_; rintro e w1 ⟨ca2, cc2, ma2, mn2, mc2, C3, S3, rfl, l2, hc3, hs3, hm2, hf2, hb2⟩; obtain ⟨b0, b1, b2⟩ := l2.facts; have hbx := l2.bel; have k1 := ln_res l2 hc3 hs3 hf2; have hb3 := hbe.trans hb2; have K1 : Hid (∀ q, Seen (w1.drewN q) ca2 sz (runes C2) ∧ Seen (w1.drewN q) ma2 mn2 (strs S2) ∧ (ma2 = none → mn2 = 0)) := k1; clear l2 hb2 hbe hc k1 hc3 hs3)
  go_quiet (fail)
  go_wp2
  go_ret3
  exact ⟨_, _, _, _, _, rfl, (K1.out _).1, (K1.out _).2.1, hm2, (K1.out 0).2.2, hf2, below_drewN hb3 _⟩
end Go.Proofs.Qxb6600479a.Scr
