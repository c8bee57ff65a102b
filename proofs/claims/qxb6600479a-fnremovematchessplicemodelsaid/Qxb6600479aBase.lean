/-
  A LINE OF THE SCREEN IN MEMORY: its three cells, its row of runes, its row of marks.
-/
import Derived.Test.Qxb6600479aRows
import Derived.WalkKit
import Derived.Outline
import Derived.Deep.OwnRows
import Derived.Deep.QuietTactic
import Derived.BigQuiet
import Derived.WalkSmall
import Derived.WalkSpells
import Derived.RegionTactic
import Derived.Deep.DeepCutAuto
namespace Go.Proofs.Qxb6600479a.Scr
open Go.RowKit

theorem cell_lt {w : World} {a : Addr} {v : Value} (h : w.cell? a = some v) : a.block < w.heap.size := by
  unfold World.cell? at h
  split at h
  · rename_i hb; exact (Array.getElem?_eq_some_iff.1 hb).1
  · cases h

def runes (C : Nat → Int) (i : Nat) : Value := .int .i32 (C i)
def strs (S : Nat → ByteArray) (i : Nat) : Value := .string (S i)

/-- The three cells of a line. -/
def fld (ca : Option Addr) (cn cc : Nat) (ma : Option Addr) (mn mc : Nat) (fill : Int) : Nat → Value
  | 0 => .slice ca cn cc
  | 1 => .slice ma mn mc
  | _ => .int .i32 fill

/-- A slice of the call's own: nil, or a row of its own from its head on. -/
def Own (B : Nat) (w : World) (t : TypeId) (a : Option Addr) (n c : Nat) (f : Nat → Value) : Prop :=
  (a = none ∧ n = 0 ∧ c = 0) ∨ ∃ g, a = some ⟨g, 0, none⟩ ∧ B ≤ g ∧ n ≤ c ∧ w.rowIs g t c f

/-- The two slices lie in two blocks, and in none that is bx. -/
def Apart (bx : Nat) (ca ma : Option Addr) : Prop := (∀ g, ca = some ⟨g, 0, none⟩ → g ≠ bx) ∧ (∀ g, ma = some ⟨g, 0, none⟩ → g ≠ bx) ∧ ∀ g h, ca = some ⟨g, 0, none⟩ → ma = some ⟨h, 0, none⟩ → g ≠ h

/-- The line behind the pointer bx; nothing of it lies below B. -/
structure Ln (B : Nat) (w : World) (bx : Nat) (ca : Option Addr) (cn cc : Nat) (ma : Option Addr) (mn mc : Nat) (fill : Int) (C : Nat → Int) (S : Nat → ByteArray) : Prop where
  hB : B ≤ bx
  box : w.rowIs bx 39 3 (fld ca cn cc ma mn mc fill)
  cells : Own B w 21 ca cn cc (runes C)
  marks : Own B w 9 ma mn mc (strs S)
  apart : Apart bx ca ma

theorem Own.same {B : Nat} {w w' : World} {t : TypeId} {a : Option Addr} {n c : Nat} {f : Nat → Value} (h : Own B w t a n c f) (e : ∀ g, a = some ⟨g, 0, none⟩ → w'.heap[g]? = w.heap[g]?) : Own B w' t a n c f := by
  rcases h with h | ⟨g, rfl, h1, h2, h3⟩
  · exact .inl h
  · exact .inr ⟨g, rfl, h1, h2, h3.of_block (e g rfl)⟩

theorem Own.congr {B : Nat} {w : World} {t : TypeId} {a : Option Addr} {n c : Nat} {f g : Nat → Value} (h : Own B w t a n c f) (e : ∀ i, i < c → f i = g i) : Own B w t a n c g := by
  rcases h with ⟨h1, h2, h3⟩ | ⟨b, rfl, h1, h2, h3⟩
  · exact .inl ⟨h1, h2, h3⟩
  · exact .inr ⟨b, rfl, h1, h2, h3.congr e⟩

theorem Own.pos {B : Nat} {w : World} {t : TypeId} {a : Option Addr} {n c : Nat} {f : Nat → Value} (h : Own B w t a n c f) (hn : 0 < n) : ∃ g, a = some ⟨g, 0, none⟩ ∧ B ≤ g ∧ n ≤ c ∧ w.rowIs g t c f := by
  rcases h with ⟨_, h2, _⟩ | h
  · omega
  · exact h

theorem Own.le {B : Nat} {w : World} {t : TypeId} {a : Option Addr} {n c : Nat} {f : Nat → Value} (h : Own B w t a n c f) : n ≤ c := by
  rcases h with ⟨_, h2, h3⟩ | ⟨_, _, _, h2, _⟩
  · omega
  · exact h2

theorem Ln.same {B : Nat} {w w' : World} {bx : Nat} {ca : Option Addr} {cn cc : Nat} {ma : Option Addr} {mn mc : Nat} {fill : Int} {C : Nat → Int} {S : Nat → ByteArray} (h : Ln B w bx ca cn cc ma mn mc fill C S) (e : w'.heap = w.heap) : Ln B w' bx ca cn cc ma mn mc fill C S :=
  ⟨h.hB, h.box.of_block (by rw [e]), h.cells.same (fun g _ => by rw [e]), h.marks.same (fun g _ => by rw [e]), h.apart⟩

theorem Ln.facts {B : Nat} {w : World} {bx : Nat} {ca : Option Addr} {cn cc : Nat} {ma : Option Addr} {mn mc : Nat} {fill : Int} {C : Nat → Int} {S : Nat → ByteArray} (h : Ln B w bx ca cn cc ma mn mc fill C S) :
    w.cell? ⟨bx, 0, none⟩ = some (.slice ca cn cc) ∧ w.cell? ⟨bx, 1, none⟩ = some (.slice ma mn mc) ∧ w.cell? ⟨bx, 2, none⟩ = some (.int .i32 fill) :=
  ⟨h.box.cell (by omega), h.box.cell (by omega), h.box.cell (by omega)⟩

/-- A store of the fill. -/
theorem Ln.setFill {B : Nat} {w : World} {bx : Nat} {ca : Option Addr} {cn cc : Nat} {ma : Option Addr} {mn mc : Nat} {fill : Int} {C : Nat → Int} {S : Nat → ByteArray} (h : Ln B w bx ca cn cc ma mn mc fill C S) (r : Int) : Ln B (w.setCell ⟨bx, 2, none⟩ (.int .i32 r)) bx ca cn cc ma mn mc r C S := by
  refine ⟨h.hB, (h.box.set _ _).congr fun j hj => ?_, h.cells.same fun g hg => heap_setCell_other w _ g _ (h.apart.1 g hg), h.marks.same fun g hg => heap_setCell_other w _ g _ (h.apart.2.1 g hg), h.apart⟩
  match j, hj with
  | 0, _ => rfl
  | 1, _ => rfl
  | 2, _ => rfl

def updR (C : Nat → Int) (i : Nat) (v : Int) (j : Nat) : Int := if j = i then v else C j
def updS (S : Nat → ByteArray) (i : Nat) (v : ByteArray) (j : Nat) : ByteArray := if j = i then v else S j

/-- A store of a rune. -/
theorem Ln.setRune {B : Nat} {w : World} {bx g : Nat} {cn cc : Nat} {ma : Option Addr} {mn mc : Nat} {fill : Int} {C : Nat → Int} {S : Nat → ByteArray} (h : Ln B w bx (some ⟨g, 0, none⟩) cn cc ma mn mc fill C S) (i : Nat) (v : Int) : Ln B (w.setCell ⟨g, i, none⟩ (.int .i32 v)) bx (some ⟨g, 0, none⟩) cn cc ma mn mc fill (updR C i v) S := by
  have hg := h.apart.1 g rfl
  refine ⟨h.hB, h.box.setOther (Ne.symm hg) _, ?_, h.marks.same fun m hm => heap_setCell_other w _ m _ (Ne.symm (h.apart.2.2 g m rfl hm)), h.apart⟩
  rcases h.cells with ⟨h1, _⟩ | ⟨g', e, h1, h2, h3⟩
  · cases h1
  · cases e
    exact .inr ⟨g, rfl, h1, h2, (h3.set _ _).congr fun j _ => by unfold runes updR; split <;> rfl⟩

/-- A store of a mark. -/
theorem Ln.setMark {B : Nat} {w : World} {bx g : Nat} {ca : Option Addr} {cn cc mn mc : Nat} {fill : Int} {C : Nat → Int} {S : Nat → ByteArray} (h : Ln B w bx ca cn cc (some ⟨g, 0, none⟩) mn mc fill C S) (i : Nat) (v : ByteArray) : Ln B (w.setCell ⟨g, i, none⟩ (.string v)) bx ca cn cc (some ⟨g, 0, none⟩) mn mc fill C (updS S i v) := by
  have hg := h.apart.2.1 g rfl
  refine ⟨h.hB, h.box.setOther (Ne.symm hg) _, h.cells.same fun m hm => heap_setCell_other w _ m _ (h.apart.2.2 m g hm rfl), ?_, h.apart⟩
  rcases h.marks with ⟨h1, _⟩ | ⟨g', e, h1, h2, h3⟩
  · cases h1
  · cases e
    exact .inr ⟨g, rfl, h1, h2, (h3.set _ _).congr fun j _ => by unfold strs updS; split <;> rfl⟩

/-- Does 'split' erase a character at x? -/
def hit (C : Nat → Int) (cn x : Nat) : Bool := decide (0 < x ∧ x < cn ∧ C x = -1)
def splC (C : Nat → Int) (cn x i : Nat) : Int := if hit C cn x = true ∧ (i + 1 = x ∨ i = x) then 0 else C i
def splS (C : Nat → Int) (S : Nat → ByteArray) (cn x i : Nat) : ByteArray := if hit C cn x = true ∧ (i + 1 = x ∨ i = x) then ByteArray.empty else S i

theorem splC_no {C : Nat → Int} {cn x : Nat} (h : hit C cn x = false) : splC C cn x = C := by funext i; simp [splC, h]
theorem splS_no {C : Nat → Int} {S : Nat → ByteArray} {cn x : Nat} (h : hit C cn x = false) : splS C S cn x = S := by funext i; simp [splS, h]
theorem splC_yes {C : Nat → Int} {cn p : Nat} (h : hit C cn (p + 1) = true) : updR (updR C p 0) (p + 1) 0 = splC C cn (p + 1) := by
  funext i
  unfold updR splC
  by_cases c1 : i = p + 1
  · simp [c1, h]
  · by_cases c2 : i = p
    · simp [c2, h]
    · simp [c1, c2]
theorem splS_yes {C : Nat → Int} {S : Nat → ByteArray} {cn p : Nat} (h : hit C cn (p + 1) = true) : updS (updS S p ByteArray.empty) (p + 1) ByteArray.empty = splS C S cn (p + 1) := by
  funext i
  unfold updS splS
  by_cases c1 : i = p + 1
  · simp [c1, h]
  · by_cases c2 : i = p
    · simp [c2, h]
    · simp [c1, c2]
end Go.Proofs.Qxb6600479a.Scr
