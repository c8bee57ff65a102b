/-
  THE PLAIN LAW: what 'put' leaves is what the model says.
-/
import Derived.Test.Qxb6600479aModel
namespace Go.Proofs.Qxb6600479a.Scr

theorem er_iff (cx cy : Bool) (x y k : Nat) : er cx cy x y k = true ↔ (cx = true ∧ (k + 1 = x ∨ k = x)) ∨ (cy = true ∧ (k + 1 = y ∨ k = y)) := by
  unfold er
  simp only [Bool.or_eq_true, Bool.and_eq_true, beq_iff_eq]
  have e1 : ((k : Int) = (x : Int) - 1) ↔ k + 1 = x := by omega
  have e2 : ((k : Int) = (x : Int)) ↔ k = x := by omega
  have e3 : ((k : Int) = (y : Int) - 1) ↔ k + 1 = y := by omega
  have e4 : ((k : Int) = (y : Int)) ↔ k = y := by omega
  rw [e1, e2, e3, e4]

theorem hit_spl (C : Nat → Int) (cn x y : Nat) (hxy : x ≤ y) : hit (splC C cn x) cn y = true ↔ hit C cn y = true ∧ ¬ (hit C cn x = true ∧ y = x) := by
  by_cases h : hit C cn x = true ∧ (y + 1 = x ∨ y = x)
  · have hyx : y = x := by omega
    subst hyx
    have h0 : splC C cn y y = 0 := by unfold splC; rw [if_pos h]
    constructor
    · intro h1
      unfold hit at h1
      rw [h0] at h1
      simp at h1
    · rintro ⟨_, h2⟩
      exact absurd ⟨h.1, rfl⟩ h2
  · have h0 : splC C cn x y = C y := by unfold splC; rw [if_neg h]
    have h1 : hit (splC C cn x) cn y = hit C cn y := by unfold hit; rw [h0]
    rw [h1]
    constructor
    · exact fun h2 => ⟨h2, fun h3 => h ⟨h3.1, .inr h3.2⟩⟩
    · exact fun h2 => h2.1

theorem cutC_at (C : Nat → Int) (cn x y k : Nat) (hxy : x ≤ y) : cutC C cn x y k = if er (hit C cn x) (hit C cn y) x y k = true then 0 else C k := by
  have h1 := er_iff (hit C cn x) (hit C cn y) x y k
  have h2 := hit_spl C cn x y hxy
  by_cases hx : hit C cn x = true ∧ (k + 1 = x ∨ k = x)
  · rw [if_pos (h1.2 (.inl hx))]
    unfold cutC
    by_cases hy : hit (splC C cn x) cn y = true ∧ (k + 1 = y ∨ k = y)
    · unfold splC at hy ⊢
      rw [if_pos hy]
    · have : splC (splC C cn x) cn y k = splC C cn x k := by rw [splC, if_neg hy]
      rw [this, splC, if_pos hx]
  · have h3 : splC C cn x k = C k := by rw [splC, if_neg hx]
    unfold cutC
    by_cases hy : hit C cn y = true ∧ (k + 1 = y ∨ k = y)
    · rw [if_pos (h1.2 (.inr hy))]
      have h4 : hit (splC C cn x) cn y = true := h2.2 ⟨hy.1, fun h => hx ⟨h.1, by omega⟩⟩
      rw [splC, if_pos ⟨h4, hy.2⟩]
    · have h5 : ¬ (hit (splC C cn x) cn y = true ∧ (k + 1 = y ∨ k = y)) := fun h => hy ⟨(h2.1 h.1).1, h.2⟩
      rw [if_neg (fun h => by rcases h1.1 h with h | h <;> contradiction), splC, if_neg h5, h3]

theorem cutS_at (C : Nat → Int) (S : Nat → ByteArray) (cn x y k : Nat) (hxy : x ≤ y) : cutS C S cn x y k = if er (hit C cn x) (hit C cn y) x y k = true then ByteArray.empty else S k := by
  have h1 := er_iff (hit C cn x) (hit C cn y) x y k
  have h2 := hit_spl C cn x y hxy
  by_cases hx : hit C cn x = true ∧ (k + 1 = x ∨ k = x)
  · rw [if_pos (h1.2 (.inl hx))]
    unfold cutS
    by_cases hy : hit (splC C cn x) cn y = true ∧ (k + 1 = y ∨ k = y)
    · rw [splS, if_pos hy]
    · have : splS (splC C cn x) (splS C S cn x) cn y k = splS C S cn x k := by rw [splS, if_neg hy]
      rw [this, splS, if_pos hx]
  · have h3 : splS C S cn x k = S k := by rw [splS, if_neg hx]
    unfold cutS
    by_cases hy : hit C cn y = true ∧ (k + 1 = y ∨ k = y)
    · rw [if_pos (h1.2 (.inr hy))]
      have h4 : hit (splC C cn x) cn y = true := h2.2 ⟨hy.1, fun h => hx ⟨h.1, by omega⟩⟩
      rw [splS, if_pos ⟨h4, hy.2⟩]
    · have h5 : ¬ (hit (splC C cn x) cn y = true ∧ (k + 1 = y ∨ k = y)) := fun h => hy ⟨(h2.1 h.1).1, h.2⟩
      rw [if_neg (fun h => by rcases h1.1 h with h | h <;> contradiction), splS, if_neg h5, h3]

theorem plain_C (C : Nat → Int) (cn x y : Nat) (r : Int) (wd n : Nat) (hy : y = x + wd * n) : wrC (mC cn (cutC C cn x y)) x r wd n = modC C cn x y r wd := by
  funext k
  unfold wrC modC
  rw [← hy]
  split
  · rfl
  · unfold mC
    by_cases h : k < cn
    · rw [if_pos h, if_neg (by omega), cutC_at C cn x y k (by rw [hy]; omega)]
    · rw [if_neg h, if_pos (by omega)]

theorem plain_S (C : Nat → Int) (S : Nat → ByteArray) (cn x y : Nat) (hxy : x ≤ y) : wrS (mS cn (cutS C S cn x y)) x y = modS C S cn x y := by
  funext k
  unfold wrS modS
  split
  · rfl
  · unfold mS
    by_cases h : k < cn
    · rw [if_pos h, if_neg (by omega), cutS_at C S cn x y k hxy]
    · rw [if_neg h, if_pos (by omega)]

theorem plain_fill (x y cn sz : Nat) (r : Int) (hsz : (y ≤ cn ∧ sz = cn) ∨ (cn < y ∧ sz = y)) : putFill x y sz r = modFill x y cn r := by
  unfold putFill modFill
  by_cases h : x = 0 ∧ y = sz
  · rw [if_pos h, if_pos (by omega)]
  · rw [if_neg h, if_neg (by omega)]
end Go.Proofs.Qxb6600479a.Scr
