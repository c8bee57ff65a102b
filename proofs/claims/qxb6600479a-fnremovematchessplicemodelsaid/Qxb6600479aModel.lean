/-
  'scrB1PutModel'.
-/
import Derived.Test.Qxb6600479aWalks
import Derived.Test.Qxb6600479aZz
import Derived.Deep.CutRange
namespace Go.Proofs.Qxb6600479a.Scr
open Go.RowKit

def part (k : Nat) (f : Nat → Value) (z : Value) (j : Nat) : Value := if j < k then f j else z

theorem part_set {w : World} {g : Nat} {t : TypeId} {n k : Nat} {f : Nat → Value} {z v : Value} (h : w.rowIs g t n (part k f z)) (e : f k = v) : (w.setCell ⟨g, k, none⟩ v).rowIs g t n (part (k + 1) f z) := by
  subst e
  exact (h.set _ _).congr fun j _ => set_congr j

theorem part_skip {k : Nat} {f : Nat → Value} {z : Value} (e : f k = z) : part k f z = part (k + 1) f z := by
  funext j
  unfold part
  by_cases c : j = k
  · subst c; simp [e]
  · by_cases h : j < k
    · rw [if_pos h, if_pos (by omega)]
    · rw [if_neg h, if_neg (by omega)]

theorem part_done {w : World} {g : Nat} {t : TypeId} {n : Nat} {f : Nat → Value} {z : Value} (h : w.rowIs g t n (part n f z)) : w.rowIs g t n f := h.congr fun j hj => by simp [part, hj]

/-- The model's two rows, k columns of each written. -/
structure Outs (B : Nat) (w : World) (g : Nat) (om : Option Addr) (omn sz k : Nat) (MC : Nat → Int) (MS : Nat → ByteArray) : Prop where
  hB : B ≤ g
  row : w.rowIs g 21 sz (part k (runes MC) (.int .i32 0))
  marks : Own B w 9 om omn omn (part k (strs MS) (.string ByteArray.empty))
  apart : ∀ m, om = some ⟨m, 0, none⟩ → m ≠ g
  len : om = none ∨ omn = sz

theorem Outs.keep {B : Nat} {w : World} {g : Nat} {om : Option Addr} {omn sz k : Nat} {MC : Nat → Int} {MS : Nat → ByteArray} (h : Outs B w g om omn sz k MC MS) (e1 : MC k = 0) (e2 : MS k = ByteArray.empty) : Outs B w g om omn sz (k + 1) MC MS := by
  refine ⟨h.hB, ?_, ?_, h.apart, h.len⟩
  · rw [← part_skip (show runes MC k = .int .i32 0 by unfold runes; rw [e1])]; exact h.row
  · rw [← part_skip (show strs MS k = .string ByteArray.empty by unfold strs; rw [e2])]; exact h.marks

theorem Outs.rune {B : Nat} {w : World} {g : Nat} {om : Option Addr} {omn sz k : Nat} {MC : Nat → Int} {MS : Nat → ByteArray} {v : Int} (h : Outs B w g om omn sz k MC MS) (e1 : MC k = v) (e2 : om = none ∨ MS k = ByteArray.empty) : Outs B (w.setCell ⟨g, k, none⟩ (.int .i32 v)) g om omn sz (k + 1) MC MS := by
  refine ⟨h.hB, part_set h.row (by unfold runes; rw [e1]), ?_, h.apart, h.len⟩
  have hm : Own B (w.setCell ⟨g, k, none⟩ (.int .i32 v)) 9 om omn omn (part k (strs MS) (.string ByteArray.empty)) := h.marks.same fun m e => heap_setCell_other w _ m _ (h.apart m e)
  rcases e2 with rfl | e2
  · rcases hm with h1 | ⟨_, h1, _⟩
    · exact .inl h1
    · cases h1
  · rw [← part_skip (show strs MS k = .string ByteArray.empty by unfold strs; rw [e2])]; exact hm

theorem Outs.both {B : Nat} {w : World} {g m : Nat} {omn sz k : Nat} {MC : Nat → Int} {MS : Nat → ByteArray} {v : Int} {s : ByteArray} (h : Outs B w g (some ⟨m, 0, none⟩) omn sz k MC MS) (e1 : MC k = v) (e2 : MS k = s) : Outs B ((w.setCell ⟨g, k, none⟩ (.int .i32 v)).setCell ⟨m, k, none⟩ (.string s)) g (some ⟨m, 0, none⟩) omn sz (k + 1) MC MS := by
  have ha := h.apart m rfl
  refine ⟨h.hB, (part_set h.row (by unfold runes; rw [e1])).setOther (Ne.symm ha) _, ?_, h.apart, h.len⟩
  rcases h.marks with ⟨h1, _⟩ | ⟨m', e, h1, h2, h3⟩
  · cases h1
  · cases e
    exact .inr ⟨m, rfl, h1, h2, part_set (h3.setOther (by exact ha) _) (by unfold strs; rw [e2])⟩

theorem Outs.below {B : Nat} {a w : World} {g : Nat} {om : Option Addr} {omn sz k : Nat} {MC : Nat → Int} {MS : Nat → ByteArray} (h : Outs B w g om omn sz k MC MS) (hb : Below B a w) (j : Nat) (v : Value) : Below B a (w.setCell ⟨g, j, none⟩ v) := hb.setCell h.hB v

/-- Is column k erased? -/
def er (cx cy : Bool) (x y k : Nat) : Bool := (cx && ((k : Int) == (x : Int) - 1 || (k : Int) == (x : Int))) || (cy && ((k : Int) == (y : Int) - 1 || (k : Int) == (y : Int)))
def modC (C : Nat → Int) (cn x y : Nat) (r : Int) (wd k : Nat) : Int := if x ≤ k ∧ k < y then (if wd = 2 ∧ (k - x) % 2 = 1 then -1 else r) else if cn ≤ k then 0 else if er (hit C cn x) (hit C cn y) x y k = true then 0 else C k
def modS (C : Nat → Int) (S : Nat → ByteArray) (cn x y k : Nat) : ByteArray := if x ≤ k ∧ k < y then ByteArray.empty else if cn ≤ k then ByteArray.empty else if er (hit C cn x) (hit C cn y) x y k = true then ByteArray.empty else S k
def modFill (x y cn : Nat) (r : Int) : Int := if x = 0 ∧ cn ≤ y then r else 0

/-- What the walk knows of the model's functions. -/
def IsC (cx cy : Bool) (C : Nat → Int) (cn x y : Nat) (r : Int) (wd : Nat) (MC : Nat → Int) : Prop := ∀ k, (x ≤ k ∧ k < y → MC k = if wd = 2 ∧ (k - x) % 2 = 1 then -1 else r) ∧ (¬ (x ≤ k ∧ k < y) → cn ≤ k → MC k = 0) ∧ (¬ (x ≤ k ∧ k < y) → er cx cy x y k = true → MC k = 0) ∧ (¬ (x ≤ k ∧ k < y) → ¬ cn ≤ k → er cx cy x y k = false → MC k = C k)
def IsS (cx cy : Bool) (S : Nat → ByteArray) (cn x y : Nat) (MS : Nat → ByteArray) : Prop := ∀ k, (x ≤ k ∧ k < y → MS k = ByteArray.empty) ∧ (¬ (x ≤ k ∧ k < y) → cn ≤ k → MS k = ByteArray.empty) ∧ (¬ (x ≤ k ∧ k < y) → er cx cy x y k = true → MS k = ByteArray.empty) ∧ (¬ (x ≤ k ∧ k < y) → ¬ cn ≤ k → er cx cy x y k = false → MS k = S k)

/-- How the model ends. -/
def ModEnd (w : World) (sz : Nat) (ma : Option Addr) (fill : Int) (MC : Nat → Int) (MS : Nat → ByteArray) (e : Ending) (w' : World) : Prop :=
  ∃ ca cc om omn mc, e = .returned (.tuple #[.slice ca sz cc, .slice om omn mc, .int .i32 fill]) ∧ Seen w' ca sz (runes MC) ∧ Seen w' om omn (strs MS) ∧ (om = none ↔ ma = none) ∧ (om = none → omn = 0) ∧ (om = none ∨ omn = sz) ∧ Below w.heap.size w w'

theorem isS (C : Nat → Int) (S : Nat → ByteArray) (cn x y : Nat) : IsS (hit C cn x) (hit C cn y) S cn x y (modS C S cn x y) := by
  intro k
  unfold modS
  refine ⟨fun h => by rw [if_pos h], fun h h1 => by rw [if_neg h, if_pos h1], fun h h1 => ?_, fun h h1 h2 => by rw [if_neg h, if_neg h1, h2]; rfl⟩
  rw [if_neg h, if_pos h1]
  split <;> rfl
theorem isC (C : Nat → Int) (cn x y : Nat) (r : Int) (wd : Nat) : IsC (hit C cn x) (hit C cn y) C cn x y r wd (modC C cn x y r wd) := by
  intro k
  unfold modC
  refine ⟨fun h => by rw [if_pos h], fun h h1 => by rw [if_neg h, if_pos h1], fun h h1 => ?_, fun h h1 h2 => by rw [if_neg h, if_neg h1, h2]; rfl⟩
  rw [if_neg h, if_pos h1]
  split <;> rfl

theorem hit_run {w : World} {a : Option Addr} {n : Nat} {C : Nat → Int} (hs : Seen w a n (runes C)) {x : Nat} (hx : x < n) : ∃ b off, a = some ⟨b, off, none⟩ ∧ b < w.heap.size ∧ w.cell? ⟨b, off + x, none⟩ = some (.int .i32 (C x)) := hs.at hx
end Go.Proofs.Qxb6600479a.Scr
