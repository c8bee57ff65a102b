/-
  SLICES AS THE WALKS OF THIS SEAT SEE THEM.
-/
import Derived.Test.Qxb6605586aRows
import Derived.WalkKit
import Derived.Outline
import Derived.Deep.OwnRows
import Derived.Deep.QuietTactic
import Derived.BigQuiet
import Derived.WalkSmall
import Derived.WalkSpells
import Derived.RegionTactic
namespace Go.Proofs.Qxb6605586a.Sl
open Go.RowKit

theorem cell_lt {w : World} {a : Addr} {v : Value} (h : w.cell? a = some v) : a.block < w.heap.size := by
  unfold World.cell? at h
  split at h
  · rename_i hb; exact (Array.getElem?_eq_some_iff.1 hb).1
  · cases h

/-- A slice's value leads to m cells, the c-th holding 'f c'. -/
def Seen (w : World) (a : Option Addr) (m : Nat) (f : Nat → Value) : Prop :=
  m = 0 ∨ ∃ b off, a = some ⟨b, off, none⟩ ∧ b < w.heap.size ∧ ∀ c, c < m → w.cell? ⟨b, off + c, none⟩ = some (f c)

theorem Seen.at {w : World} {a : Option Addr} {m : Nat} {f : Nat → Value} (h : Seen w a m f) {k : Nat} (hk : k < m) : ∃ b off, a = some ⟨b, off, none⟩ ∧ b < w.heap.size ∧ w.cell? ⟨b, off + k, none⟩ = some (f k) := by
  rcases h with rfl | ⟨b, off, rfl, hb, hc⟩
  · omega
  · exact ⟨b, off, rfl, hb, hc k hk⟩

theorem Seen.all {w : World} {a : Option Addr} {m : Nat} {f : Nat → Value} (h : Seen w a m f) (hm : 0 < m) : ∃ b off, a = some ⟨b, off, none⟩ ∧ b < w.heap.size ∧ ∀ c, c < m → w.cell? ⟨b, off + c, none⟩ = some (f c) := by
  rcases h with rfl | h
  · omega
  · exact h

theorem Seen.below {w w' : World} {a : Option Addr} {m : Nat} {f : Nat → Value} (h : Seen w a m f) (hb : Below w.heap.size w w') : Seen w' a m f := by
  rcases h with rfl | ⟨b, off, rfl, hlt, hc⟩
  · exact .inl rfl
  · exact .inr ⟨b, off, rfl, Nat.lt_of_lt_of_le hlt hb.size, fun i hi => (hb.cell (by exact hlt)).trans (hc i hi)⟩

theorem Seen.row {w : World} {b m : Nat} {t : TypeId} {f : Nat → Value} (h : w.rowIs b t m f) : Seen w (some ⟨b, 0, none⟩) m f :=
  .inr ⟨b, 0, rfl, h.lt, fun c hc => by rw [Nat.zero_add]; exact h.cell hc⟩

/-- A slice as it came in, opened: nil, or an address. -/
theorem seen_of {w : World} {x : Addr} {m : Nat} {f : Nat → Value} (h : ∀ c, c < m → w.cell? (x.add c) = some (f c)) : Seen w (some x) m f := by
  by_cases e : m = 0
  · exact .inl e
  · obtain ⟨b, off, spot⟩ := x
    have hs : spot = none := by simpa [Addr.add] using World.cell?_spot (h 0 (by omega))
    subst hs
    have hc : ∀ c, c < m → w.cell? ⟨b, off + c, none⟩ = some (f c) := fun c hc => by rw [← Addr.add_lit]; exact h c hc
    exact .inr ⟨b, off, rfl, cell_lt (hc 0 (by omega)), hc⟩

theorem below_rows {B : Nat} {w w' : World} {b m : Nat} {t : TypeId} {f : Nat → Value} (h : w.rowIs b t m f) (hb : Below B w w') (hB : b < B) : w'.rowIs b t m f := h.of_block (hb.block b hB)

end Go.Proofs.Qxb6605586a.Sl
