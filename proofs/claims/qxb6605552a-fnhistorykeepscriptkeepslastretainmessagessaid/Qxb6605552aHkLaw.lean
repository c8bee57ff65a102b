/-
  THE WALK OF 'FnHistoryKeepScriptKeepsLastRetainMessages' OUT OF ITS CALLEES' CONTRACTS.
-/
import Derived.Test.Qxb6605552aHkBytes
import Derived.Deep.CutBlock
namespace Go.Proofs.Qxb6605552a.Hk
open Go.RowKit

/-- The members as they came in. -/
def RawInts (w : World) (a : Option Addr) (T : Nat) (M : Nat → Int) : Prop :=
  T = 0 ∨ ∃ b off, a = some ⟨b, off, none⟩ ∧ b < w.heap.size ∧ ∀ i, i < T → w.cell? ⟨b, off + i, none⟩ = some (.int .i64 (M i))

theorem RawInts.at {w : World} {a : Option Addr} {T : Nat} {M : Nat → Int} (h : RawInts w a T M) {k : Nat} (hk : k < T) : ∃ b off, a = some ⟨b, off, none⟩ ∧ w.cell? ⟨b, off + k, none⟩ = some (.int .i64 (M k)) := by
  rcases h with rfl | ⟨b, off, rfl, hb, hc⟩
  · omega
  · exact ⟨b, off, rfl, hc k hk⟩
theorem RawInts.below {w w' : World} {a : Option Addr} {T : Nat} {M : Nat → Int} (h : RawInts w a T M) (hb : Below w.heap.size w w') : RawInts w' a T M := by
  rcases h with rfl | ⟨b, off, rfl, hlt, hc⟩
  · exact .inl rfl
  · exact .inr ⟨b, off, rfl, Nat.lt_of_lt_of_le hlt hb.size, fun i hi => (hb.cell (by exact hlt)).trans (hc i hi)⟩

/-- The payloads as they are handed to the history: clones, nil beyond the last. -/
def Pays (w : World) (a : Option Addr) (n : Nat) (P : Nat → Value) : Prop :=
  (∀ t, t < n → ∃ b, a = some ⟨b, 0, none⟩ ∧ b < w.heap.size ∧ w.cell? ⟨b, t, none⟩ = some (P t)) ∧ (∀ j, Bytes 0 w (P j)) ∧ (∀ j, n ≤ j → P j = .slice none 0 0)

theorem Pays.below {w w' : World} {a : Option Addr} {n : Nat} {P : Nat → Value} (h : Pays w a n P) (hb : Below w.heap.size w w') : Pays w' a n P := by
  refine ⟨fun t ht => ?_, fun j => (h.2.1 j).below hb, h.2.2⟩
  obtain ⟨b, e, hlt, hc⟩ := h.1 t ht
  exact ⟨b, e, Nat.lt_of_lt_of_le hlt hb.size, (hb.cell (by exact hlt)).trans hc⟩

/-- How 'zzB1CloneByteSlices' ends. -/
def PaysEnd (w : World) (n : Nat) (e : Ending) (w' : World) : Prop := ∃ a c P, e = .returned (.slice a n c) ∧ Pays w' a n P ∧ Below w.heap.size w w'

theorem pays_any (a : Option Addr) (n cap : Nat) (ls : Nat → Nat) (w : World) (hn : n ≤ 1048576) (hls : ∀ i, i < n → ls i ≤ 1048576) (hr : RawRows w a n ls) :
    Calls Try.prog 10 #[.slice a n cap] w fun e w' => PaysEnd w n e w' := by
  have h0 : a = none → n = 0 := by
    intro h
    rcases hr with ⟨_, h0⟩ | ⟨x, hx, _⟩
    · exact h0
    · rw [h] at hx; cases hx
  refine (cloneAll_any a n cap ls w hn hls hr).mono ?_
  rintro e w' (⟨ha, rfl, rfl⟩ | ⟨ha, rfl, Pf, hC⟩)
  · rw [h0 ha]
    exact ⟨none, 0, fun _ => .slice none 0 0, rfl, ⟨fun t ht => by omega, fun _ => .inl rfl, fun _ _ => rfl⟩, Below.refl _ _⟩
  · refine ⟨_, _, fun j => if j < n then Pf j else .slice none 0 0, rfl, ⟨fun t ht => ⟨_, rfl, hC.1.lt, ?_⟩, fun j => ?_, fun j hj => ?_⟩, hC.2.2⟩
    · rw [hC.1.cell ht]; simp [ht]
    · by_cases hj : j < n
      · simp only [hj, if_true]; exact (hC.2.1 j hj).mono (Nat.zero_le _)
      · simp only [hj, if_false]; exact .inl rfl
    · simp only [show ¬ j < n by omega, if_false]

theorem hist_start {P : Nat → Value} {M : Nat → Int} {R B : Nat} {w : World} {h g : Nat} (hb : Body P M R B w h g 0 0 0 0 0) : Hist P M R B w h 0 :=
  ⟨g, 0, 0, 0, 0, by rw [cnt_self]; exact hb, rfl, Nat.le_refl _, by omega, .inl ⟨rfl, rfl, rfl⟩, Nat.le_refl _, by rw [cnt_self]; omega, .inl rfl⟩

set_option maxRecDepth 100000 in
set_option maxHeartbeats 400000 in
/-- Too much: nothing is asked. -/
theorem law_big (R : Int) (a1 : Option Addr) (T c1 : Nat) (a2 : Option Addr) (n2 c2 : Nat) (ls : Nat → Nat) (w : World) (hT : T ≤ maxLen) (hn : n2 ≤ maxLen) (hls : ∀ i, i < n2 → ls i ≤ maxLen)
    (hr : RawRows w a2 n2 ls) (hbig : ¬ (T ≤ 65536 ∧ n2 ≤ 65536 ∧ 8 * T + 24 * n2 ≤ 1048576)) :
    Calls Try.prog 5 #[.int .i64 R, .slice a1 T c1, .slice a2 n2 c2] w fun e w' => e = .returned (.bool true) ∧ Below w.heap.size w w' := by
  have hsz := sized_any R a1 T c1 a2 n2 c2 ls w hT hn hls hr
  unfold maxLen at hT hn hls
  clear hls hr
  by_cases h1 : T ≤ 65536
  · by_cases h2 : n2 ≤ 65536
    · have h3 : 1048576 < 8 * T + 24 * n2 := by omega
      clear hbig
      go_enter Try.func5, Try.ntmps5
      go_wp2_with (go_at_call 17; refine hsz.mono ?_; rintro e w' ⟨b, rfl, hb, rfl⟩; cases b)
      all_goals (go_ret; exact ⟨rfl, Below.refl _ _⟩)
    · clear hbig
      go_enter Try.func5, Try.ntmps5
      go_wp2_with (go_at_call 17; refine hsz.mono ?_; rintro e w' ⟨b, rfl, hb, rfl⟩; cases b)
      all_goals (go_ret; exact ⟨rfl, Below.refl _ _⟩)
  · clear hbig
    go_enter Try.func5, Try.ntmps5
    go_wp2_with (go_at_call 17; refine hsz.mono ?_; rintro e w' ⟨b, rfl, hb, rfl⟩; cases b)
    all_goals (go_ret; exact ⟨rfl, Below.refl _ _⟩)

set_option maxRecDepth 100000 in
set_option maxHeartbeats 400000 in
/-- No room is left for messages below none: nothing is asked. -/
theorem law_neg (R : Int) (a1 : Option Addr) (T c1 : Nat) (a2 : Option Addr) (n2 c2 : Nat) (ls : Nat → Nat) (w : World) (hls : ∀ i, i < n2 → ls i ≤ maxLen)
    (hr : RawRows w a2 n2 ls) (hT : T ≤ 65536) (hn : n2 ≤ 65536) (h3 : 8 * T + 24 * n2 ≤ 1048576) (hR : R < 0) :
    Calls Try.prog 5 #[.int .i64 R, .slice a1 T c1, .slice a2 n2 c2] w fun e w' => e = .returned (.bool true) ∧ Below w.heap.size w w' := by
  have hsz := sized_any R a1 T c1 a2 n2 c2 ls w (by unfold maxLen; omega) (by unfold maxLen; omega) hls hr
  clear hls
  go_enter Try.func5, Try.ntmps5
  go_wp2_with (go_at_call 17; refine hsz.mono ?_; rintro e w' ⟨b, rfl, hb, rfl⟩; cases b)
  · go_ret
    exact ⟨rfl, Below.refl _ _⟩
  · obtain ⟨_, _, hl⟩ := hb trivial
    have HL : Hid (∀ i, i < n2 → ls i ≤ 1048576) := hl
    clear hl hb hsz
    go_loop [7, 8] (fun zs zi => ∃ (s : Int) (k : Nat), 0 ≤ s ∧ s ≤ 1048576 ∧ k ≤ n2 ∧ zs = .int .i64 s ∧ zi = .int .i64 k) (fun _ zi => n2 - (intOf zi).toNat)
    case atStart => exact ⟨_, 0, by omega, by omega, Nat.zero_le _, rfl, rfl⟩
    case round =>
      obtain ⟨s, k, hs0, hs1, hk, rfl, rfl⟩ := hrel
      by_cases hlt : k < n2
      · obtain ⟨b, off, rfl, hb, V, hc, hV⟩ := hr.at hlt
        obtain ⟨va, vc, rfl⟩ := hV.shape
        have hlk := HL.out k hlt
        clear hr hV
        generalize ls k = lk at *
        by_cases h5 : s + lk ≤ 1048576
        · go_wp2
          go_round
          case rel => exact ⟨_, k + 1, by omega, h5, by omega, rfl, by go_num⟩
          case measure => simp [intOf]; omega
        · go_wp2
          go_ret
          exact ⟨rfl, Below.refl _ _⟩
      · go_wp2
        go_ret
        exact ⟨rfl, Below.refl _ _⟩
end Go.Proofs.Qxb6605552a.Hk
