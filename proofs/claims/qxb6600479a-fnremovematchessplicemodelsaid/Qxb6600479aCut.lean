/-
  'split' AND 'cut'.
-/
import Derived.Test.Qxb6600479aBase
import Derived.Deep.RegionWith
namespace Go.Proofs.Qxb6600479a.Scr
open Go.RowKit

theorem Ln.bel {B : Nat} {w : World} {bx : Nat} {ca : Option Addr} {cn cc : Nat} {ma : Option Addr} {mn mc : Nat} {fill : Int} {C : Nat → Int} {S : Nat → ByteArray} (h : Ln B w bx ca cn cc ma mn mc fill C S) : bx < w.heap.size := h.box.lt

/-- How a walk on the line ends. -/
def LnEnd (B : Nat) (w : World) (bx : Nat) (ca : Option Addr) (cn cc : Nat) (ma : Option Addr) (mn mc : Nat) (fill : Int) (C : Nat → Int) (S : Nat → ByteArray) (e : Ending) (w' : World) : Prop :=
  e = .returned (.tuple #[]) ∧ Ln B w' bx ca cn cc ma mn mc fill C S ∧ Below B w w'

set_option maxRecDepth 100000 in
set_option maxHeartbeats 1000000 in
theorem split_any (B : Nat) (w : World) (bx : Nat) (ca : Option Addr) (cn cc : Nat) (ma : Option Addr) (mn mc : Nat) (fill : Int) (C : Nat → Int) (S : Nat → ByteArray) (x : Nat) (hx : x ≤ 1048576) (hn : cn ≤ 1048576) (hfit : ma = none ∨ mn = cn) (hl : Ln B w bx ca cn cc ma mn mc fill C S) :
    Calls Try.prog 31 #[.pointer (some ⟨bx, 0, none⟩), .int .i64 x] w fun e w' => LnEnd B w bx ca cn cc ma mn mc fill (splC C cn x) (splS C S cn x) e w' := by
  obtain ⟨b0, b1, b2⟩ := hl.facts
  have hbx := hl.bel
  cases hh : hit C cn x with
  | false =>
    rw [splC_no hh, splS_no hh]
    have hend : LnEnd B w bx ca cn cc ma mn mc fill C S (.returned (.tuple #[])) w := ⟨rfl, hl, Below.refl _ _⟩
    by_cases h0 : x = 0
    · subst h0
      clear hl hh
      go_enter Try.func31, Try.ntmps31
      go_wp2
      go_end0
      exact hend
    · by_cases h1 : x < cn
      · obtain ⟨g, rfl, hg, hcc, hr⟩ := hl.cells.pos (show 0 < cn by omega)
        have v := hr.cell (i := x) (by omega)
        have hne : (C x != -1) = true := by
          simp [hit] at hh
          simp
          exact hh (by omega) h1
        unfold runes at v
        have hxp : 0 < x := by omega
        clear hl hh hr h0
        generalize C x = cx at *
        go_enter Try.func31, Try.ntmps31
        go_wp2
        go_end0
        exact hend
      · have hxp : 0 < x := by omega
        clear hl hh h0
        go_enter Try.func31, Try.ntmps31
        go_wp2
        go_end0
        exact hend
  | true =>
    obtain ⟨hx0, hxn, hx1⟩ : 0 < x ∧ x < cn ∧ C x = -1 := by simpa [hit] using hh
    obtain ⟨p, rfl⟩ : ∃ p, x = p + 1 := ⟨x - 1, by omega⟩
    obtain ⟨g, rfl, hg, hcc, hr⟩ := hl.cells.pos (show 0 < cn by omega)
    have v0 := hr.cell (i := p) (by omega)
    have v := hr.cell (i := p + 1) (by omega)
    have z0 := hr.frozen p
    have z1 := hr.frozen (p + 1)
    have hgl := hr.lt
    have hgb : g ≠ bx := hl.apart.1 g rfl
    unfold runes at v0 v
    rw [hx1] at v
    have hL := ((hl.setRune p 0).setRune (p + 1) 0).same (w' := ((w.setCell ⟨g, p, none⟩ (.int .i32 0)).setCell ⟨g, p + 1, none⟩ (.int .i32 0)).drew) rfl
    have hBe : Below B w ((w.setCell ⟨g, p, none⟩ (.int .i32 0)).setCell ⟨g, p + 1, none⟩ (.int .i32 0)).drew := (((Below.refl B w).setCell hg _).setCell hg _).drew
    rw [splC_yes hh] at hL
    rw [← splS_yes (S := S) hh]
    generalize splC C cn (p + 1) = C1 at *
    have HL : Hid (Ln B ((w.setCell ⟨g, p, none⟩ (.int .i32 0)).setCell ⟨g, p + 1, none⟩ (.int .i32 0)).drew bx (some ⟨g, 0, none⟩) cn cc ma mn mc fill C1 S) := hL
    have HB : Hid (Below B w ((w.setCell ⟨g, p, none⟩ (.int .i32 0)).setCell ⟨g, p + 1, none⟩ (.int .i32 0)).drew) := hBe
    clear hL hBe hl hr hh hx1
    generalize C p = cp at *
    go_enter Try.func31, Try.ntmps31
    go_wp2
    go_region
    have hl := HL.out
    have hbe := HB.out
    clear b0 b1 b2 v0 v z0 z1 HL HB
    generalize ((w.setCell ⟨g, p, none⟩ (.int .i32 0)).setCell ⟨g, p + 1, none⟩ (.int .i32 0)).drew = wc at *
    obtain ⟨b0, b1, b2⟩ := hl.facts
    have hbx := hl.bel
    have hne := fun w => run_neq_slice_nil_any (P := Try.prog) w 23 9 ma mn mc 0 0 Try.underlying23
    rcases hl.marks with ⟨rfl, rfl, rfl⟩ | ⟨m, rfl, hm, hmc, hr⟩
    · have hend : LnEnd B w bx (some ⟨g, 0, none⟩) cn cc none 0 0 fill C1 (updS (updS S p ByteArray.empty) (p + 1) ByteArray.empty) (.returned (.tuple #[])) wc := ⟨rfl, ⟨hl.hB, hl.box, hl.cells, .inl ⟨rfl, rfl, rfl⟩, hl.apart⟩, hbe⟩
      clear hl hbe
      go_wp2
      go_end0
      exact hend
    · have hmn : mn = cn := by
        rcases hfit with h | h
        · cases h
        · exact h
      subst hmn
      have v0 := hr.cell (i := p) (by omega)
      have v := hr.cell (i := p + 1) (by omega)
      have z0 := hr.frozen p
      have z1 := hr.frozen (p + 1)
      have hml := hr.lt
      unfold strs at v0 v
      have hend : LnEnd B w bx (some ⟨g, 0, none⟩) mn cc (some ⟨m, 0, none⟩) mn mc fill C1 (updS (updS S p ByteArray.empty) (p + 1) ByteArray.empty) (.returned (.tuple #[])) ((wc.setCell ⟨m, p, none⟩ (.string ByteArray.empty)).setCell ⟨m, p + 1, none⟩ (.string ByteArray.empty)).drew := ⟨rfl, ((hl.setMark p _).setMark (p + 1) _).same rfl, ((hbe.setCell hm _).setCell hm _).drew⟩
      clear hl hbe hr
      generalize S p = s0 at *
      generalize S (p + 1) = s1 at *
      go_wp2
      go_region
      go_wp2
      go_end0
      exact hend

def cutC (C : Nat → Int) (cn x y : Nat) : Nat → Int := splC (splC C cn x) cn y
def cutS (C : Nat → Int) (S : Nat → ByteArray) (cn x y : Nat) : Nat → ByteArray := splS (splC C cn x) (splS C S cn x) cn y

set_option maxRecDepth 100000 in
set_option maxHeartbeats 1000000 in
theorem cut_any (B : Nat) (w : World) (bx : Nat) (ca : Option Addr) (cn cc : Nat) (ma : Option Addr) (mn mc : Nat) (fill : Int) (C : Nat → Int) (S : Nat → ByteArray) (x y : Nat) (hx : x ≤ 1048576) (hy : y ≤ 1048576) (hn : cn ≤ 1048576) (hfit : ma = none ∨ mn = cn) (hl : Ln B w bx ca cn cc ma mn mc fill C S) :
    Calls Try.prog 28 #[.pointer (some ⟨bx, 0, none⟩), .int .i64 x, .int .i64 y] w fun e w' => LnEnd B w bx ca cn cc ma mn mc 0 (cutC C cn x y) (cutS C S cn x y) e w' := by
  have h1 := split_any B w bx ca cn cc ma mn mc fill C S x hx hn hfit hl
  have h2 := fun w1 (h : Ln B w1 bx ca cn cc ma mn mc fill (splC C cn x) (splS C S cn x)) => split_any B w1 bx ca cn cc ma mn mc fill _ _ y hy hn hfit h
  unfold cutC cutS
  generalize splC C cn x = C1 at *
  generalize splS C S cn x = S1 at *
  have H2 : Hid (∀ w1, Ln B w1 bx ca cn cc ma mn mc fill C1 S1 → Calls Try.prog 31 #[.pointer (some ⟨bx, 0, none⟩), .int .i64 y] w1 fun e w' => LnEnd B w1 bx ca cn cc ma mn mc fill (splC C1 cn y) (splS C1 S1 cn y) e w') := h2
  clear hl h2
  generalize splC C1 cn y = C2 at *
  generalize splS C1 S1 cn y = S2 at *
  go_enter Try.func28, Try.ntmps28
  go_wp2_with (first | (go_at_call_of 31 x; refine h1.mono ?_; rintro e w1 ⟨rfl, l1, hb1⟩) | (go_at_call_of 31 y; refine (H2.out _ l1).mono ?_; rintro e w2 ⟨rfl, l2, hb2⟩; have hb12 := hb1.trans hb2; obtain ⟨b0, b1, b2⟩ := l2.facts; have z2 := l2.box.frozen 2; have l3 := l2.setFill 0; have hb3 := hb12.setCell (p := ⟨bx, 2, none⟩) l2.hB (.int .i32 0); clear hb1 l1 l2 hb2 hb12))
  go_end0
  exact ⟨rfl, l3, hb3⟩
end Go.Proofs.Qxb6600479a.Scr
