/-
  THE PLAIN SIDE OF 'FnHistoryKeepScriptKeepsLastRetainMessages': a ring's places, the count of messages, the longest suffix.
-/
import Derived.WalkKit
namespace Go.Proofs.Qxb6605552a.Hk

/-! ### Places in a ring of L -/
/-- How far place t lies behind the head. -/
def dist (hd L t : Nat) : Nat := if hd ≤ t then t - hd else t + L - hd
/-- The place of the j-th kept. -/
def pos (hd L j : Nat) : Nat := if hd + j < L then hd + j else hd + j - L

theorem pos_mod {hd L j : Nat} (h : hd < L) (hj : j ≤ L) : (hd + j) % L = pos hd L j := by
  unfold pos
  split
  · exact Nat.mod_eq_of_lt ‹_›
  · rw [Nat.mod_eq_sub_mod (by omega), Nat.mod_eq_of_lt (by omega)]
theorem pos_lt {hd L j : Nat} (h : hd < L) (hj : j ≤ L) : pos hd L j < L := by
  unfold pos; split <;> omega
theorem dist_lt {hd L t : Nat} (h : hd < L) (ht : t < L) : dist hd L t < L := by
  unfold dist; split <;> omega
theorem dist_pos {hd L j : Nat} (h : hd < L) (hj : j < L) : dist hd L (pos hd L j) = j := by
  unfold dist pos; split <;> split <;> omega
theorem pos_dist {hd L t : Nat} (h : hd < L) (ht : t < L) : pos hd L (dist hd L t) = t := by
  unfold dist pos; split <;> split <;> omega
theorem pos_zero {hd L : Nat} (h : hd < L) : pos hd L 0 = hd := by
  unfold pos; rw [if_pos (by omega)]; omega
theorem dist_zero (L t : Nat) : dist 0 L t = t := by unfold dist; rw [if_pos (by omega)]; omega

/-- '&' with L-1, L a power of two: the rest by L. -/
theorem and_mask (e L a : Nat) (hL : L = 2 ^ e) (he : e < 62) (ha : a < 2 ^ 62) : bits .and .i64 (a : Int) ((L : Int) - 1) = ((a % L : Nat) : Int) := by
  have hw : ∀ n : Int, 0 ≤ n → n < 2 ^ 62 → IntKind.i64.wrap n = n := fun n h0 h1 => by rw [IntKind.wrap_i64]; omega
  have h := bits_mask .i64 62 (by decide) hw e (by omega) (a : Int) (Int.natCast_nonneg _) (by exact_mod_cast ha)
  have e1 : (L : Int) = 2 ^ e := by rw [hL]; simp
  rw [e1, h, Int.natCast_emod, e1]

/-! ### Messages -/
/-- How many of the first k positions are messages. -/
def pre (ms : Nat → Int) : Nat → Nat
  | 0 => 0
  | k + 1 => pre ms k + (if 0 ≤ ms k then 1 else 0)

theorem pre_yes (ms : Nat → Int) (k : Nat) (h : 0 ≤ ms k) : pre ms (k + 1) = pre ms k + 1 := by simp [pre, h]
theorem pre_no (ms : Nat → Int) (k : Nat) (h : ¬ 0 ≤ ms k) : pre ms (k + 1) = pre ms k := by simp [pre, h]
theorem pre_step (ms : Nat → Int) (k : Nat) : pre ms k ≤ pre ms (k + 1) ∧ pre ms (k + 1) ≤ pre ms k + 1 := by
  by_cases h : 0 ≤ ms k
  · rw [pre_yes ms k h]; omega
  · rw [pre_no ms k h]; omega
theorem pre_mono (ms : Nat → Int) {a b : Nat} (h : a ≤ b) : pre ms a ≤ pre ms b := by
  induction b with
  | zero => have : a = 0 := by omega
            rw [this]; exact Nat.le_refl _
  | succ k ih =>
    by_cases e : a = k + 1
    · rw [e]; exact Nat.le_refl _
    · have := ih (by omega)
      have := (pre_step ms k).1
      omega
theorem pre_gap (ms : Nat → Int) {a b : Nat} (h : a ≤ b) : pre ms b ≤ pre ms a + (b - a) := by
  induction b with
  | zero => have : a = 0 := by omega
            rw [this]; omega
  | succ k ih =>
    by_cases e : a = k + 1
    · rw [e]; omega
    · have := ih (by omega)
      have := (pre_step ms k).2
      omega

/-- The messages from s up to i. -/
def cnt (ms : Nat → Int) (s i : Nat) : Nat := pre ms i - pre ms s

/-- s is where the longest suffix of the first T positions with at most R messages begins. -/
def Good (ms : Nat → Int) (R s T : Nat) : Prop := s ≤ T ∧ cnt ms s T ≤ R ∧ (s = 0 ∨ (0 ≤ ms (s - 1) ∧ R ≤ cnt ms s T))

theorem good_le {ms : Nat → Int} {R s1 s2 T : Nat} (h1 : Good ms R s1 T) (h2 : Good ms R s2 T) : s2 ≤ s1 := by
  obtain ⟨a1, b1, _⟩ := h1
  obtain ⟨a2, b2, c2⟩ := h2
  unfold cnt at *
  rcases c2 with c2 | ⟨c2, d2⟩
  · omega
  · refine Nat.le_of_not_lt fun hlt => ?_
    obtain ⟨k, rfl⟩ : ∃ k, s2 = k + 1 := ⟨s2 - 1, by omega⟩
    have e : k + 1 - 1 = k := rfl
    rw [e] at c2
    have := pre_yes ms k c2
    have := pre_mono ms (show s1 ≤ k by omega)
    have := pre_mono ms (show k + 1 ≤ T by omega)
    omega
theorem good_one {ms : Nat → Int} {R s1 s2 T : Nat} (h1 : Good ms R s1 T) (h2 : Good ms R s2 T) : s1 = s2 := Nat.le_antisymm (good_le h2 h1) (good_le h1 h2)

/-- What the loop that lets the oldest go holds on to. -/
def Half (ms : Nat → Int) (R s T : Nat) : Prop := s ≤ T ∧ (R < cnt ms s T ∨ s = 0 ∨ (0 ≤ ms (s - 1) ∧ R ≤ cnt ms s T))

theorem half_start {ms : Nat → Int} {R s i : Nat} (h : Good ms R s i) : Half ms R s (i + 1) := by
  obtain ⟨a, _, c⟩ := h
  refine ⟨by omega, .inr ?_⟩
  rcases c with c | ⟨c, d⟩
  · exact .inl c
  · refine .inr ⟨c, ?_⟩
    have := (pre_step ms i).1
    unfold cnt at *
    omega
theorem half_drop {ms : Nat → Int} {R s T : Nat} (h : Half ms R s T) (hm : R < cnt ms s T) : s < T ∧ Half ms R (s + 1) T ∧ (0 ≤ ms s → cnt ms (s + 1) T + 1 = cnt ms s T) ∧ (¬ 0 ≤ ms s → cnt ms (s + 1) T = cnt ms s T) := by
  obtain ⟨a, _⟩ := h
  have hlt : s < T := by
    refine Nat.lt_of_le_of_ne a fun e => ?_
    rw [e] at hm
    unfold cnt at hm
    omega
  have h2 := pre_mono ms (show s + 1 ≤ T by omega)
  refine ⟨hlt, ⟨by omega, ?_⟩, fun hy => ?_, fun hn => ?_⟩
  · by_cases hy : 0 ≤ ms s
    · refine .inr (.inr ⟨by simpa using hy, ?_⟩)
      have := pre_yes ms s hy
      unfold cnt at *
      omega
    · refine .inl ?_
      have := pre_no ms s hy
      unfold cnt at *
      omega
  · have := pre_yes ms s hy
    unfold cnt at *
    omega
  · have := pre_no ms s hn
    unfold cnt at *
    omega
theorem half_done {ms : Nat → Int} {R s T : Nat} (h : Half ms R s T) (hm : ¬ R < cnt ms s T) : Good ms R s T := by
  obtain ⟨a, b⟩ := h
  refine ⟨a, by omega, ?_⟩
  rcases b with b | b
  · omega
  · exact b
theorem cnt_more {ms : Nat → Int} {s i : Nat} (h : s ≤ i) (hy : 0 ≤ ms i) : cnt ms s (i + 1) = cnt ms s i + 1 := by
  have := pre_yes ms i hy
  have := pre_mono ms h
  unfold cnt
  omega
theorem cnt_same {ms : Nat → Int} {s i : Nat} (hn : ¬ 0 ≤ ms i) : cnt ms s (i + 1) = cnt ms s i := by
  have := pre_no ms i hn
  unfold cnt
  omega
theorem cnt_le {ms : Nat → Int} {s i : Nat} (h : s ≤ i) : cnt ms s i ≤ i - s := by
  have := pre_gap ms h
  unfold cnt
  omega
theorem cnt_self (ms : Nat → Int) (s : Nat) : cnt ms s s = 0 := by unfold cnt; omega
theorem cnt_down {ms : Nat → Int} {s T : Nat} (h : s < T) : (0 ≤ ms s → cnt ms s T = cnt ms (s + 1) T + 1) ∧ (¬ 0 ≤ ms s → cnt ms s T = cnt ms (s + 1) T) := by
  have h2 := pre_mono ms (show s + 1 ≤ T by omega)
  refine ⟨fun hy => ?_, fun hn => ?_⟩
  · have := pre_yes ms s hy
    unfold cnt
    omega
  · have := pre_no ms s hn
    unfold cnt
    omega
end Go.Proofs.Qxb6605552a.Hk
