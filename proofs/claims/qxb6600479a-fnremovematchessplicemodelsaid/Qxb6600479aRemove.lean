/-
  'remove'.
-/
import Derived.Test.Qxb6600479aTrunc
namespace Go.Proofs.Qxb6600479a.Scr
open Go.RowKit

/-- The columns from x + n on, moved n to the left. -/
def shC (C : Nat → Int) (cn x n j : Nat) : Int := if x ≤ j ∧ j < cn - n then C (j + n) else C j
def shS (S : Nat → ByteArray) (cn x n j : Nat) : ByteArray := if x ≤ j ∧ j < cn - n then S (j + n) else S j

theorem size21 : (Try.prog.info? 21).map (·.size) = some 1 := by kernel_rfl
theorem size9 : (Try.prog.info? 9).map (·.size) = some 1 := by kernel_rfl

theorem Ln.copyC {B : Nat} {w : World} {bx g : Nat} {cn cc : Nat} {ma : Option Addr} {mn mc : Nat} {fill : Int} {C : Nat → Int} {S : Nat → ByteArray} (h : Ln B w bx (some ⟨g, 0, none⟩) cn cc ma mn mc fill C S) (x n : Nat) (hx : x + n < cn) :
    ∃ w2, (Builtin.copy_ #[22, 22] 3 #[.slice (some ⟨g, x, none⟩) (cn - x) (cc - x), .slice (some ⟨g, x + n, none⟩) (cn - (x + n)) (cc - (x + n))]).run Try.prog w = .ok (.int .i64 ((cn - (x + n) : Nat) : Int)) w2 ∧
      Ln B w2 bx (some ⟨g, 0, none⟩) cn cc ma mn mc fill (shC C cn x n) S ∧ (∀ a, Below B a w → Below B a w2) := by
  rcases h.cells with ⟨h1, _⟩ | ⟨g', e, h1, h2, h3⟩
  · cases h1
  cases e
  have hr := run_copy_cells (P := Try.prog) w 22 22 3 21 g x (cn - x) (cc - x) ⟨g, x + n, none⟩ (cn - (x + n)) (cc - (x + n)) ((List.range (cn - (x + n))).map fun j => runes C (x + n + j)) Try.underlying22 size21
    (by simp only [List.length_map, List.length_range]; exact (Nat.min_eq_left (show cn - (x + n) ≤ cn - x by omega)).symm)
    (by
      intro j v hj
      have hjn : j < cn - (x + n) := by simpa using (List.getElem?_eq_some_iff.1 hj).1
      simp [hjn] at hj
      rw [← hj, Addr.add_lit]
      exact h3.cell (by omega))
    (by
      intro j hj
      simp at hj
      rw [h3.cell (by omega)]
      rfl)
    (fun j _ => h3.frozen _)
    (by intro v hv; simp at hv; obtain ⟨j, _, rfl⟩ := hv; rfl)
  have hgi : goInt (((List.range (cn - (x + n))).map fun j => runes C (x + n + j)).length : Nat) = .int .i64 ((cn - (x + n) : Nat) : Int) := by simp [goInt]
  rw [hgi] at hr
  refine ⟨_, hr, ⟨h.hB, Go.rowIs_setCells_other (Ne.symm (h.apart.1 g rfl)) _ _ _ h.box, .inr ⟨g, rfl, h1, h2, (Go.rowIs_setCells _ x _ _ h3).congr fun j hj => ?_⟩, ?_, h.apart⟩, fun a hb => Go.below_setCells h1 _ _ _ hb⟩
  · unfold runes shC
    simp only [List.length_map, List.length_range]
    by_cases c : x ≤ j ∧ j < cn - n
    · rw [if_pos (by omega), if_pos c]
      simp [show j - x < cn - (x + n) by omega, show x + n + (j - x) = j + n by omega]
    · rw [if_neg (by omega), if_neg c]
  · rcases h.marks with h1' | ⟨m, e, k1, k2, k3⟩
    · exact .inl h1'
    · exact .inr ⟨m, e, k1, k2, Go.rowIs_setCells_other (Ne.symm (h.apart.2.2 g m rfl e)) _ _ _ k3⟩

theorem Ln.copyM {B : Nat} {w : World} {bx m : Nat} {ca : Option Addr} {cn cc : Nat} {mc : Nat} {fill : Int} {C : Nat → Int} {S : Nat → ByteArray} (h : Ln B w bx ca cn cc (some ⟨m, 0, none⟩) cn mc fill C S) (x n : Nat) (hx : x + n < cn) :
    ∃ w2, (Builtin.copy_ #[23, 23] 3 #[.slice (some ⟨m, x, none⟩) (cn - x) (mc - x), .slice (some ⟨m, x + n, none⟩) (cn - (x + n)) (mc - (x + n))]).run Try.prog w = .ok (.int .i64 ((cn - (x + n) : Nat) : Int)) w2 ∧
      Ln B w2 bx ca cn cc (some ⟨m, 0, none⟩) cn mc fill C (shS S cn x n) ∧ (∀ a, Below B a w → Below B a w2) := by
  rcases h.marks with ⟨h1, _⟩ | ⟨m', e, h1, h2, h3⟩
  · cases h1
  cases e
  have hr := run_copy_cells (P := Try.prog) w 23 23 3 9 m x (cn - x) (mc - x) ⟨m, x + n, none⟩ (cn - (x + n)) (mc - (x + n)) ((List.range (cn - (x + n))).map fun j => strs S (x + n + j)) Try.underlying23 size9
    (by simp only [List.length_map, List.length_range]; exact (Nat.min_eq_left (show cn - (x + n) ≤ cn - x by omega)).symm)
    (by
      intro j v hj
      have hjn : j < cn - (x + n) := by simpa using (List.getElem?_eq_some_iff.1 hj).1
      simp [hjn] at hj
      rw [← hj, Addr.add_lit]
      exact h3.cell (by omega))
    (by
      intro j hj
      simp at hj
      rw [h3.cell (by omega)]
      rfl)
    (fun j _ => h3.frozen _)
    (by intro v hv; simp at hv; obtain ⟨j, _, rfl⟩ := hv; rfl)
  have hgi : goInt (((List.range (cn - (x + n))).map fun j => strs S (x + n + j)).length : Nat) = .int .i64 ((cn - (x + n) : Nat) : Int) := by simp [goInt]
  rw [hgi] at hr
  refine ⟨_, hr, ⟨h.hB, Go.rowIs_setCells_other (Ne.symm (h.apart.2.1 m rfl)) _ _ _ h.box, ?_, .inr ⟨m, rfl, h1, h2, (Go.rowIs_setCells _ x _ _ h3).congr fun j hj => ?_⟩, h.apart⟩, fun a hb => Go.below_setCells h1 _ _ _ hb⟩
  · rcases h.cells with h1' | ⟨g, e, k1, k2, k3⟩
    · exact .inl h1'
    · exact .inr ⟨g, e, k1, k2, Go.rowIs_setCells_other (h.apart.2.2 g m e rfl) _ _ _ k3⟩
  · unfold strs shS
    simp only [List.length_map, List.length_range]
    by_cases c : x ≤ j ∧ j < cn - n
    · rw [if_pos (by omega), if_pos c]
      simp [show j - x < cn - (x + n) by omega, show x + n + (j - x) = j + n by omega]
    · rw [if_neg (by omega), if_neg c]

set_option maxRecDepth 100000 in
set_option maxHeartbeats 1000000 in
theorem remove_far (B : Nat) (w : World) (bx : Nat) (ca : Option Addr) (cn cc : Nat) (ma : Option Addr) (mn mc : Nat) (fill : Int) (C : Nat → Int) (S : Nat → ByteArray) (x n : Nat) (hx : cn ≤ x) (hfit : ma = none ∨ mn = cn) (hl : Ln B w bx ca cn cc ma mn mc fill C S) :
    Calls Try.prog 27 #[.pointer (some ⟨bx, 0, none⟩), .int .i64 x, .int .i64 n] w fun e w' => RemEnd B w bx cn ma fill C S e w' := by
  obtain ⟨b0, b1, b2⟩ := hl.facts
  have hbx := hl.bel
  have HE : Hid (RemEnd B w bx cn ma fill C S (.returned (.tuple #[])) w) := ⟨ca, cc, ma, mn, mc, C, S, rfl, hl, fun _ _ => rfl, fun _ _ => rfl, Iff.rfl, hfit, Below.refl _ _⟩
  clear hl hfit
  go_enter Try.func27, Try.ntmps27
  go_wp2
  go_end0
  exact HE.out

set_option maxRecDepth 100000 in
set_option maxHeartbeats 1000000 in
theorem remove_tail (B : Nat) (w : World) (bx : Nat) (ca : Option Addr) (cn cc : Nat) (ma : Option Addr) (mn mc : Nat) (fill : Int) (C : Nat → Int) (S : Nat → ByteArray) (x n : Nat) (hx : x < cn) (hxn : cn ≤ x + n) (hn : n ≤ 65536) (hcn : cn ≤ 262144) (hfit : ma = none ∨ mn = cn) (hl : Ln B w bx ca cn cc ma mn mc fill C S) :
    Calls Try.prog 27 #[.pointer (some ⟨bx, 0, none⟩), .int .i64 x, .int .i64 n] w fun e w' => RemEnd B w bx x ma 0 (cutC C cn x (x + n)) (cutS C S cn x (x + n)) e w' := by
  obtain ⟨b0, b1, b2⟩ := hl.facts
  have hbx := hl.bel
  have hcut := cut_any B w bx ca cn cc ma mn mc fill C S x (x + n) (by omega) (by omega) (by omega) hfit hl
  have htr := fun w1 (h : Ln B w1 bx ca cn cc ma mn mc 0 (cutC C cn x (x + n)) (cutS C S cn x (x + n))) => trunc_less B w1 bx ca cn cc ma mn mc 0 _ _ x hx (by omega) hfit h
  generalize cutC C cn x (x + n) = C1 at *
  generalize cutS C S cn x (x + n) = S1 at *
  rw [show ((x + n : Nat) : Int) = (x : Int) + (n : Int) by omega] at hcut
  have HT : Hid (∀ w1, Ln B w1 bx ca cn cc ma mn mc 0 C1 S1 → Calls Try.prog 30 #[.pointer (some ⟨bx, 0, none⟩), .int .i64 x] w1 fun e w' => RemEnd B w1 bx x ma 0 C1 S1 e w') := htr
  clear hl htr hfit
  go_enter Try.func27, Try.ntmps27
  go_wp2_with (first | (go_at_call 28; refine hcut.mono ?_; rintro e w1 ⟨rfl, l1, hb1⟩; obtain ⟨d0, d1, d2⟩ := l1.facts; have hbx1 := l1.bel) | (go_at_call 30; refine (HT.out _ l1).mono ?_; rintro e w2 ⟨ca2, cc2, ma2, mn2, mc2, C2, S2, rfl, l2, hc2, hs2, hm2, hf2, hb2⟩))
  go_end0
  exact ⟨_, _, _, _, _, _, _, rfl, l2, hc2, hs2, hm2, hf2, hb1.trans hb2⟩

set_option maxRecDepth 100000 in
set_option maxHeartbeats 1000000 in
theorem remove_mid (B : Nat) (w : World) (bx : Nat) (ca : Option Addr) (cn cc : Nat) (ma : Option Addr) (mn mc : Nat) (fill : Int) (C : Nat → Int) (S : Nat → ByteArray) (x n : Nat) (hxn : x + n < cn) (hn : n ≤ 65536) (hcn : cn ≤ 262144) (hfit : ma = none ∨ mn = cn) (hl : Ln B w bx ca cn cc ma mn mc fill C S) :
    Calls Try.prog 27 #[.pointer (some ⟨bx, 0, none⟩), .int .i64 x, .int .i64 n] w fun e w' => RemEnd B w bx (cn - n) ma 0 (shC (cutC C cn x (x + n)) cn x n) (shS (cutS C S cn x (x + n)) cn x n) e w' := by
  obtain ⟨b0, b1, b2⟩ := hl.facts
  have hbx := hl.bel
  have hcut := cut_any B w bx ca cn cc ma mn mc fill C S x (x + n) (by omega) (by omega) (by omega) hfit hl
  have htr : ∀ w1, Ln B w1 bx ca cn cc ma mn mc 0 (shC (cutC C cn x (x + n)) cn x n) (shS (cutS C S cn x (x + n)) cn x n) → Calls Try.prog 30 #[.pointer (some ⟨bx, 0, none⟩), .int .i64 ((cn - n : Nat) : Int)] w1 fun e w' => RemEnd B w1 bx (cn - n) ma 0 (shC (cutC C cn x (x + n)) cn x n) (shS (cutS C S cn x (x + n)) cn x n) e w' := fun w1 h => by
    by_cases h0 : n = 0
    · subst h0
      exact trunc_same B w1 bx ca cn cc ma mn mc 0 _ _ hfit h
    · exact trunc_less B w1 bx ca cn cc ma mn mc 0 _ _ (cn - n) (by omega) (by omega) hfit h
  obtain ⟨g, rfl, hg, hcc, _⟩ := hl.cells.pos (show 0 < cn by omega)
  generalize cutC C cn x (x + n) = C1 at *
  generalize cutS C S cn x (x + n) = S1 at *
  rw [show ((x + n : Nat) : Int) = (x : Int) + (n : Int) by omega] at hcut
  simp only [show ((cn - n : Nat) : Int) = (cn : Int) - (n : Int) by omega] at htr
  have HT : Hid (∀ w1, Ln B w1 bx (some ⟨g, 0, none⟩) cn cc ma mn mc 0 (shC C1 cn x n) (shS S1 cn x n) → Calls Try.prog 30 #[.pointer (some ⟨bx, 0, none⟩), .int .i64 ((cn : Int) - (n : Int))] w1 fun e w' => RemEnd B w1 bx (cn - n) ma 0 (shC C1 cn x n) (shS S1 cn x n) e w') := htr
  have HFIT : Hid (ma = none ∨ mn = cn) := hfit
  clear hl htr hfit
  go_enter Try.func27, Try.ntmps27
  go_upto_region 4 with (go_at_call 28; refine hcut.mono ?_; rintro e w1 ⟨rfl, l1, hb1⟩; obtain ⟨d0, d1, d2⟩ := l1.facts; have hbx1 := l1.bel)
  obtain ⟨w2, hcp, l2, hbb⟩ := (l1.same (w' := w1.drew) rfl).copyC x n hxn
  have hb2 := hbb _ hb1.drew
  have HL : Hid (Ln B w2 bx (some ⟨g, 0, none⟩) cn cc ma mn mc 0 (shC C1 cn x n) S1) := l2
  have HB : Hid (Below B w w2) := hb2
  have hx1 : x < cc := by omega
  have hx2 : x + n < cc := by omega
  clear l1 l2 hbb hb2 hb1 hcut
  go_region
  have hl := HL.out
  clear d0 d1 d2 hbx1 hcp b0 b1 b2
  obtain ⟨d0, d1, d2⟩ := hl.facts
  have hbx2 := hl.bel
  have hne := fun w => run_neq_slice_nil_any (P := Try.prog) w 23 9 ma mn mc 0 0 Try.underlying23
  rcases hl.marks with ⟨rfl, rfl, rfl⟩ | ⟨m, rfl, hm, hmc, _⟩
  · have l3 : Ln B w2 bx (some ⟨g, 0, none⟩) cn cc none 0 0 0 (shC C1 cn x n) (shS S1 cn x n) := ⟨hl.hB, hl.box, hl.cells, .inl ⟨rfl, rfl, rfl⟩, hl.apart⟩
    have hT := HT.out _ l3
    clear l3 hl HL
    go_wp2_with (go_at_call 30; refine hT.mono ?_; rintro e w4 ⟨ca2, cc2, ma2, mn2, mc2, C2, S2, rfl, l2, hc2, hs2, hm2, hf2, hb2⟩)
    go_end0
    exact ⟨_, _, _, _, _, _, _, rfl, l2, hc2, hs2, by simpa using hm2, hf2, HB.out.trans hb2⟩
  · have hmn : mn = cn := by
      rcases HFIT.out with h | h
      · cases h
      · exact h
    subst hmn
    obtain ⟨w3, hcp, l3, hbb⟩ := (hl.same (w' := w2.drew) rfl).copyM x n hxn
    have hb3 := hbb _ HB.out.drew
    have hT := HT.out _ l3
    obtain ⟨e0, e1, e2⟩ := l3.facts
    have hbx3 := l3.bel
    have hx3 : x < mc := by omega
    have hx4 : x + n < mc := by omega
    clear l3 hl HL HB hbb
    have HB : Hid (Below B w w3) := hb3
    clear hb3
    go_upto_region 6 with fail
    go_region
    go_wp2_with (go_at_call 30; refine hT.mono ?_; rintro e w4 ⟨ca2, cc2, ma2, mn2, mc2, C2, S2, rfl, l2, hc2, hs2, hm2, hf2, hb2⟩)
    go_end0
    exact ⟨_, _, _, _, _, _, _, rfl, l2, hc2, hs2, hm2, hf2, HB.out.trans hb2⟩
end Go.Proofs.Qxb6600479a.Scr
