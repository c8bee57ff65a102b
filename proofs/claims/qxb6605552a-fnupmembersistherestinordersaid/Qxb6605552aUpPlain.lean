/-
  THE PLAIN LAW OF 'FnUpMembersIsTheRestInOrder': lists and numbers, no Go in sight.
-/
import Derived.Below
namespace Go.Proofs.Qxb6605552a.Up

/-- Is the member j among the listed ones? -/
def inB (ds : List Int) (j : Nat) : Bool := decide ((j : Int) ∈ ds)
/-- The members below n that are not listed, in order. -/
def ups (ds : List Int) (n : Nat) : List Int := ((List.range n).filter (fun j => !inB ds j)).map (fun j : Nat => (j : Int))
/-- How many members below n are listed. -/
def cnt (ds : List Int) (n : Nat) : Nat := ((List.range n).filter (fun j => inB ds j)).length

theorem ups_zero (ds : List Int) : ups ds 0 = [] := rfl
theorem ups_in (ds : List Int) (k : Nat) (h : inB ds k = true) : ups ds (k + 1) = ups ds k := by
  simp [ups, List.range_succ, List.filter_append, h]
theorem ups_out (ds : List Int) (k : Nat) (h : inB ds k = false) : ups ds (k + 1) = ups ds k ++ [(k : Int)] := by
  simp [ups, List.range_succ, List.filter_append, h]
theorem ups_le (ds : List Int) (n : Nat) : (ups ds n).length ≤ n := by
  induction n with
  | zero => simp [ups]
  | succ k ih => cases h : inB ds k with
    | true => rw [ups_in ds k h]; omega
    | false => rw [ups_out ds k h]; simp; omega
theorem ups_cnt (ds : List Int) (n : Nat) : (ups ds n).length + cnt ds n = n := by
  induction n with
  | zero => simp [ups, cnt]
  | succ k ih => cases h : inB ds k with
    | true => rw [ups_in ds k h]; simp only [cnt, List.range_succ, List.filter_append, List.length_append] at *; simp [h]; omega
    | false => rw [ups_out ds k h]; simp only [cnt, List.range_succ, List.filter_append, List.length_append] at *; simp [h]; omega
theorem cnt_nil (n : Nat) : cnt [] n = 0 := by simp [cnt, inB]
theorem cnt_le (ds : List Int) (n : Nat) : cnt ds n ≤ n := by have := ups_cnt ds n; omega

/-- What stands at place i of the list. -/
theorem ups_at (ds : List Int) (n i : Nat) (h : i < (ups ds n).length) : ∃ j : Nat, (ups ds n).getD i 0 = (j : Int) ∧ j < n ∧ inB ds j = false := by
  have hm : (ups ds n).getD i 0 ∈ ups ds n := by
    rw [List.getD_eq_getElem?_getD, List.getElem?_eq_getElem h]; exact List.getElem_mem h
  unfold ups at hm
  rw [List.mem_map] at hm
  obtain ⟨j, hj, e⟩ := hm
  rw [List.mem_filter, List.mem_range] at hj
  exact ⟨j, e.symm, hj.1, by simpa using hj.2⟩

theorem ups_bound (ds : List Int) (n i : Nat) (h : i < (ups ds n).length) : (ups ds n).getD i 0 < (n : Int) := by
  obtain ⟨j, e, hj, _⟩ := ups_at ds n i h
  rw [e]; omega

theorem ups_step (ds : List Int) (n : Nat) : ∀ i, i + 1 < (ups ds n).length → (ups ds n).getD i 0 < (ups ds n).getD (i + 1) 0 := by
  induction n with
  | zero => intro i h; simp [ups] at h
  | succ k ih => cases h : inB ds k with
    | true => rw [ups_in ds k h]; exact ih
    | false =>
      intro i hi
      have hb := ups_bound ds k i
      rw [ups_out ds k h] at hi ⊢
      simp at hi
      by_cases hlt : i + 1 < (ups ds k).length
      · have := ih i hlt
        simp only [List.getD_eq_getElem?_getD] at this ⊢
        rw [List.getElem?_append_left (by omega), List.getElem?_append_left (by omega)]
        exact this
      · have he : i + 1 = (ups ds k).length := by omega
        have hb' := hb (by omega)
        simp only [List.getD_eq_getElem?_getD] at hb' ⊢
        rw [List.getElem?_append_left (by omega), List.getElem?_append_right (by omega)]
        simp [he]
        exact hb'

theorem take_snoc (ds : List Int) (k : Nat) (h : k < ds.length) : ds.take (k + 1) = ds.take k ++ [ds.getD k 0] := by
  rw [List.take_succ_eq_append_getElem h, List.getD_eq_getElem?_getD, List.getElem?_eq_getElem h]; rfl

theorem inB_snoc (ds : List Int) (d : Int) (j : Nat) : inB (ds ++ [d]) j = (decide (j = d) || inB ds j) := by
  unfold inB
  by_cases h : (j : Int) = d <;> by_cases g : (j : Int) ∈ ds <;> simp [h, g]

/-- A number that is no member below n, or is listed already, counts nothing. -/
theorem cnt_same (ds : List Int) (d : Int) (n : Nat) (h : ∀ j : Nat, j < n → (j : Int) = d → inB ds j = true) : cnt (ds ++ [d]) n = cnt ds n := by
  unfold cnt
  congr 1
  apply List.filter_congr
  intro j hj
  rw [List.mem_range] at hj
  rw [inB_snoc]
  by_cases e : (j : Int) = d
  · simp [e, h j hj e]
  · simp [e]

/-- A member below n that is not listed yet counts one. -/
theorem cnt_more (ds : List Int) (d : Nat) (n : Nat) (hd : d < n) (h : inB ds d = false) : cnt (ds ++ [(d : Int)]) n = cnt ds n + 1 := by
  induction n with
  | zero => omega
  | succ k ih =>
    have hs : ∀ l : List Int, cnt l (k + 1) = cnt l k + if inB l k then 1 else 0 := by
      intro l
      unfold cnt
      rw [List.range_succ, List.filter_append, List.length_append]
      cases hb : inB l k <;> simp [hb]
    rw [hs, hs]
    by_cases e : d = k
    · subst e
      rw [cnt_same ds d d (fun j hj e => by omega)]
      have : inB (ds ++ [(d : Int)]) d = true := by rw [inB_snoc]; simp
      simp [this, h]
    · rw [ih (by omega)]
      have : inB (ds ++ [(d : Int)]) k = inB ds k := by
        rw [inB_snoc]
        have : ¬ (k : Int) = (d : Int) := by omega
        simp [this]
      rw [this]; omega
end Go.Proofs.Qxb6605552a.Up
