/-
  'truncate'.
-/
import Derived.Test.Qxb6600479aPut
namespace Go.Proofs.Qxb6600479a.Scr
open Go.RowKit

/-- The cells, resliced to fewer. -/
theorem Ln.fewC {B : Nat} {w : World} {bx : Nat} {ca : Option Addr} {cn cc : Nat} {ma : Option Addr} {mn mc : Nat} {fill : Int} {C : Nat → Int} {S : Nat → ByteArray} (h : Ln B w bx ca cn cc ma mn mc fill C S) {n : Nat} (hn : n ≤ cn) : Ln B (w.setCell ⟨bx, 0, none⟩ (.slice ca n cc)) bx ca n cc ma mn mc fill C S := by
  refine ⟨h.hB, (h.box.set _ _).congr fun j hj => ?_, ?_, h.marks.same fun g hg => heap_setCell_other w _ g _ (h.apart.2.1 g hg), h.apart⟩
  · match j, hj with
    | 0, _ => rfl
    | 1, _ => rfl
    | 2, _ => rfl
  · rcases h.cells.same (w' := w.setCell ⟨bx, 0, none⟩ (.slice ca n cc)) (fun g hg => heap_setCell_other w _ g _ (h.apart.1 g hg)) with ⟨h1, h2, h3⟩ | ⟨g, e, h1, h2, h3⟩
    · exact .inl ⟨h1, by omega, h3⟩
    · exact .inr ⟨g, e, h1, by omega, h3⟩

/-- The marks, resliced to fewer. -/
theorem Ln.fewM {B : Nat} {w : World} {bx : Nat} {ca : Option Addr} {cn cc : Nat} {ma : Option Addr} {mn mc : Nat} {fill : Int} {C : Nat → Int} {S : Nat → ByteArray} (h : Ln B w bx ca cn cc ma mn mc fill C S) {n : Nat} (hn : n ≤ mn) : Ln B (w.setCell ⟨bx, 1, none⟩ (.slice ma n mc)) bx ca cn cc ma n mc fill C S := by
  refine ⟨h.hB, (h.box.set _ _).congr fun j hj => ?_, h.cells.same fun g hg => heap_setCell_other w _ g _ (h.apart.1 g hg), ?_, h.apart⟩
  · match j, hj with
    | 0, _ => rfl
    | 1, _ => rfl
    | 2, _ => rfl
  · rcases h.marks.same (w' := w.setCell ⟨bx, 1, none⟩ (.slice ma n mc)) (fun g hg => heap_setCell_other w _ g _ (h.apart.2.1 g hg)) with ⟨h1, h2, h3⟩ | ⟨g, e, h1, h2, h3⟩
    · exact .inl ⟨h1, by omega, h3⟩
    · exact .inr ⟨g, e, h1, by omega, h3⟩

/-- How 'truncate' and 'remove' end: sz columns, each as told. -/
def RemEnd (B : Nat) (w : World) (bx sz : Nat) (ma : Option Addr) (fill : Int) (RC : Nat → Int) (RS : Nat → ByteArray) (e : Ending) (w' : World) : Prop :=
  ∃ ca cc ma' mn mc C S, e = .returned (.tuple #[]) ∧ Ln B w' bx ca sz cc ma' mn mc fill C S ∧ (∀ i, i < sz → C i = RC i) ∧ (∀ i, i < sz → S i = RS i) ∧ (ma' = none ↔ ma = none) ∧ (ma' = none ∨ mn = sz) ∧ Below B w w'

set_option maxRecDepth 100000 in
set_option maxHeartbeats 1000000 in
theorem trunc_same (B : Nat) (w : World) (bx : Nat) (ca : Option Addr) (cn cc : Nat) (ma : Option Addr) (mn mc : Nat) (fill : Int) (C : Nat → Int) (S : Nat → ByteArray) (hfit : ma = none ∨ mn = cn) (hl : Ln B w bx ca cn cc ma mn mc fill C S) :
    Calls Try.prog 30 #[.pointer (some ⟨bx, 0, none⟩), .int .i64 cn] w fun e w' => RemEnd B w bx cn ma fill C S e w' := by
  obtain ⟨b0, b1, b2⟩ := hl.facts
  have hbx := hl.bel
  have hend : RemEnd B w bx cn ma fill C S (.returned (.tuple #[])) w := ⟨ca, cc, ma, mn, mc, C, S, rfl, hl, fun _ _ => rfl, fun _ _ => rfl, Iff.rfl, hfit, Below.refl _ _⟩
  have HE : Hid (RemEnd B w bx cn ma fill C S (.returned (.tuple #[])) w) := hend
  clear hl hfit hend
  go_enter Try.func30, Try.ntmps30
  go_wp2
  go_end0
  exact HE.out

set_option maxRecDepth 100000 in
set_option maxHeartbeats 1000000 in
theorem trunc_less (B : Nat) (w : World) (bx : Nat) (ca : Option Addr) (cn cc : Nat) (ma : Option Addr) (mn mc : Nat) (fill : Int) (C : Nat → Int) (S : Nat → ByteArray) (n : Nat) (hlt : n < cn) (hn : cn ≤ 1048576) (hfit : ma = none ∨ mn = cn) (hl : Ln B w bx ca cn cc ma mn mc fill C S) :
    Calls Try.prog 30 #[.pointer (some ⟨bx, 0, none⟩), .int .i64 n] w fun e w' => RemEnd B w bx n ma 0 C S e w' := by
  obtain ⟨b0, b1, b2⟩ := hl.facts
  have hbx := hl.bel
  have z0 := hl.box.frozen 0
  have z1 := hl.box.frozen 1
  have z2 := hl.box.frozen 2
  have hne := fun w => run_neq_slice_nil_any (P := Try.prog) w 23 9 ma mn mc 0 0 Try.underlying23
  obtain ⟨g, rfl, hg, hcc, hr⟩ := hl.cells.pos (show 0 < cn by omega)
  have hl2 := (hl.fewC (show n ≤ cn by omega)).setFill 0
  have hb2 : Below B w ((w.setCell ⟨bx, 0, none⟩ (.slice (some ⟨g, 0, none⟩) n cc)).setCell ⟨bx, 2, none⟩ (.int .i32 0)) := ((Below.refl B w).setCell hl.hB _).setCell hl.hB _
  rcases hl.marks with ⟨rfl, rfl, rfl⟩ | ⟨m, rfl, hm, hmc, hmr⟩
  · have HE : Hid (RemEnd B w bx n none 0 C S (.returned (.tuple #[])) ((w.setCell ⟨bx, 0, none⟩ (.slice (some ⟨g, 0, none⟩) n cc)).setCell ⟨bx, 2, none⟩ (.int .i32 0))) := ⟨_, _, _, _, _, C, S, rfl, hl2, fun _ _ => rfl, fun _ _ => rfl, Iff.rfl, .inl rfl, hb2⟩
    clear hl hl2 hb2 hr hfit
    go_enter Try.func30, Try.ntmps30
    go_wp2
    go_end0
    exact HE.out
  · have hmn : mn = cn := by
      rcases hfit with h | h
      · cases h
      · exact h
    subst hmn
    have hmb := hl.apart.2.1 m rfl
    have hmr2 : ((w.setCell ⟨bx, 0, none⟩ (.slice (some ⟨g, 0, none⟩) n cc)).setCell ⟨bx, 2, none⟩ (.int .i32 0)).rowIs m 9 mc (strs S) := (hmr.setOther (by exact hmb) _).setOther (by exact hmb) _
    have hcl := clear_run n (mn - n) (mc - n) hmr2 (by omega) (by omega)
    have hl3 := hl2.clear n (mn - n)
    have hb3 := Go.below_setCells hm (List.replicate (mn - n) (.string ByteArray.empty)) n _ hb2
    have hl4 := hl3.fewM (show n ≤ mn by omega)
    obtain ⟨d0, d1, d2⟩ := hl3.facts
    have y1 := hl3.box.frozen 1
    have hbx3 := hl3.bel
    have hb4 := hb3.setCell (p := ⟨bx, 1, none⟩) hl.hB (.slice (some ⟨m, 0, none⟩) n mc)
    have hml := hmr.lt
    generalize ((w.setCell ⟨bx, 0, none⟩ (.slice (some ⟨g, 0, none⟩) n cc)).setCell ⟨bx, 2, none⟩ (.int .i32 0)).setCells m n (List.replicate (mn - n) (.string ByteArray.empty)) = w3 at *
    have HE : Hid (RemEnd B w bx n (some ⟨m, 0, none⟩) 0 C S (.returned (.tuple #[])) (w3.setCell ⟨bx, 1, none⟩ (.slice (some ⟨m, 0, none⟩) n mc))) := ⟨_, _, _, _, _, C, _, rfl, hl4, fun _ _ => rfl, fun i hi => by unfold wrS; rw [if_neg (by omega)], Iff.rfl, .inr rfl, hb4⟩
    have hnm : n < mc := by omega
    clear hl hl2 hb2 hr hfit hl3 hl4 hb3 hb4 hmr hmr2
    go_enter Try.func30, Try.ntmps30
    go_wp2
    go_end0
    exact HE.out
end Go.Proofs.Qxb6600479a.Scr
