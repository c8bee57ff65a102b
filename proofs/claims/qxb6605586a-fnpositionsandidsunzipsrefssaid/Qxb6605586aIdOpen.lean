/-
  A '[][16]byte' THAT CAME IN, OPENED.
-/
import Derived.Test.Qxb6605586aIdBase
import Derived.WalkKit
import Derived.ProofKit
import Derived.OpenShut
import Derived.Deep.Slices
namespace Go.Proofs.Qxb6605586a.Sl
open Go.ChangeShapes Go.WideShapes Go.ChangeAt Go.RowKit Go.Deep

/-- What the walk is told of a slice of ids that came in. -/
def Ids (w : World) (a : Option Addr) (n : Nat) (z : Nat → Int) : Prop := n ≤ maxLen ∧ (a = none → n = 0) ∧ Seen w a (n * 16) (byt z)

theorem add_add (x : Addr) (p j : Nat) : (x.add p).add j = x.add (p + j) := by
  unfold Addr.add
  by_cases hp : p = 0
  · subst hp; simp
  · by_cases hj : j = 0
    · subst hj; simp [hp]
    · simp [hp, hj, Nat.add_assoc]

theorem opened_ids {H : Type} {enc : TypeId × Value → H} {W : World} {a : Option Addr} {len cap : Nat} {d : DataW H} {p : List MemPlace} (h : DataW.Trod enc Try.prog W 0 (fun _ => true) true 23 (.slice a len cap) d p) : ∃ z, Ids W a len z := by
  obtain ⟨fuel, hf⟩ := h
  have c46 : Try.prog.cellsOf 46 = 16 := by kernel_rfl
  have c5 : Try.prog.cellsOf 5 = 1 := by kernel_rfl
  rcases open_slice Try.underlying23 hf with ⟨hcs, _⟩ | ⟨x, l, c, m, n, D, Pl, hcs, _, hl, hm, hmm, _, hx⟩
  · simp [Value.cells] at hcs
    obtain ⟨rfl, rfl, rfl⟩ := hcs
    exact ⟨fun _ => 0, Nat.zero_le _, fun _ => rfl, .inl rfl⟩
  · simp [Value.cells] at hcs
    obtain ⟨rfl, rfl, rfl⟩ := hcs
    simp only [if_true] at hmm
    rw [c46] at hx
    have each : ∀ c, c < len * 16 → ∃ y : Int, W.cell? (x.add c) = some (.int .u8 y) := by
      intro c hc
      obtain ⟨cs', h1, h2⟩ := hx (c / 16) (by omega)
      obtain ⟨_, h3, h4⟩ := World.cells?_some h1
      obtain ⟨xs, m', _, _, _, hxl, hel⟩ := DataW.trod_array Try.underlying46 h2
      have hj : c % 16 < 16 := Nat.mod_lt _ (by omega)
      have h5 := hel (c % 16) hj
      rw [c5, Nat.mul_one, List.getElem?_eq_getElem (by omega)] at h5
      obtain ⟨y, hy, _, _⟩ := DataW.trod_int Try.underlying5 h5
      refine ⟨y, ?_⟩
      have h6 := h4 (c % 16) hj
      rw [add_add, show c / 16 * 16 + c % 16 = c by omega] at h6
      rw [h6]
      have h7 : ((cs'.drop (c % 16)).take 1)[0]? = some (.int .u8 y) := by rw [hy]; rfl
      simpa [List.getElem?_take, List.getElem?_drop] using h7
    obtain ⟨z, hz⟩ := choose_lt (α := Int) (p := fun c y => W.cell? (x.add c) = some (.int .u8 y)) each
    exact ⟨z, Nat.le_trans hl hm, fun h => (by cases h), seen_of fun c hc => hz c hc⟩
end Go.Proofs.Qxb6605586a.Sl
