/-
  THE RING IN MEMORY, AND '(*history).at'.
-/
import Derived.Test.Qxb6605552aRows
import Derived.Test.Qxb6605552aHkPlain
import Derived.WalkKit
import Derived.Outline
import Derived.Deep.OwnRows
import Derived.Deep.QuietTactic
import Derived.BigQuiet
import Derived.WalkSmall
namespace Go.Proofs.Qxb6605552a.Hk
open Go.RowKit

/-- What cell c of a ring of L places holds: the positions s, s+1, .. s+n-1 from the head on; all else is zero. -/
def ringCell (P : Nat → Value) (M : Nat → Int) (s n hd L c : Nat) : Value :=
  if dist hd L (c / 2) < n then (if c % 2 = 0 then P (s + dist hd L (c / 2)) else .int .i32 (M (s + dist hd L (c / 2)))) else (if c % 2 = 0 then .slice none 0 0 else .int .i32 0)

/-- The six cells of a history. -/
def fld (R : Int) (s L hd n m g : Nat) : Nat → Value
  | 0 => .int .i64 R
  | 1 => .int .u64 s
  | 2 => .slice (some ⟨g, 0, none⟩) L L
  | 3 => .int .i64 hd
  | 4 => .int .i64 n
  | _ => .int .i64 m

theorem ring_read {P : Nat → Value} {M : Nat → Int} {s n hd L j : Nat} (h : hd < L) (hn : n ≤ L) (hj : j < n) :
    ringCell P M s n hd L (pos hd L j * 2) = P (s + j) ∧ ringCell P M s n hd L (pos hd L j * 2 + 1) = .int .i32 (M (s + j)) := by
  have e1 : pos hd L j * 2 / 2 = pos hd L j := by omega
  have e2 : (pos hd L j * 2 + 1) / 2 = pos hd L j := by omega
  have e3 : pos hd L j * 2 % 2 = 0 := by omega
  have e4 : ¬ (pos hd L j * 2 + 1) % 2 = 0 := by omega
  have d := dist_pos h (show j < L by omega)
  constructor
  · unfold ringCell
    rw [e1, d, if_pos hj, if_pos e3]
  · unfold ringCell
    rw [e2, d, if_pos hj, if_neg e4]

theorem ring_write {P : Nat → Value} {M : Nat → Int} {s n hd L : Nat} (h : hd < L) (hn : n < L) (c : Nat) (hc : c < 2 * L) :
    (if c = pos hd L n * 2 + 1 then .int .i32 (M (s + n)) else if c = pos hd L n * 2 then P (s + n) else ringCell P M s n hd L c) = ringCell P M s (n + 1) hd L c := by
  have d := dist_pos h hn
  by_cases c1 : c = pos hd L n * 2 + 1
  · rw [if_pos c1, c1, (ring_read (n := n + 1) h (by omega) (by omega)).2]
  · by_cases c2 : c = pos hd L n * 2
    · rw [if_neg c1, if_pos c2, c2, (ring_read (n := n + 1) h (by omega) (by omega)).1]
    · rw [if_neg c1, if_neg c2]
      have hne : dist hd L (c / 2) ≠ n := by
        intro e
        have := pos_dist h (show c / 2 < L by omega)
        rw [e] at this
        omega
      unfold ringCell
      by_cases hlt : dist hd L (c / 2) < n
      · rw [if_pos hlt, if_pos (show dist hd L (c / 2) < n + 1 by omega)]
      · rw [if_neg hlt, if_neg (show ¬ dist hd L (c / 2) < n + 1 by omega)]

theorem ring_drop {P : Nat → Value} {M : Nat → Int} {s n hd L : Nat} (h : hd < L) (hn : n + 1 ≤ L) (c : Nat) (hc : c < 2 * L) :
    (if c = hd * 2 + 1 then .int .i32 0 else if c = hd * 2 then .slice none 0 0 else ringCell P M s (n + 1) hd L c) = ringCell P M (s + 1) n (pos hd L 1) L c := by
  have hp : pos hd L 1 = if hd + 1 < L then hd + 1 else 0 := by unfold pos; split <;> omega
  have hz : dist (pos hd L 1) L hd = L - 1 := by rw [hp]; unfold dist; split <;> split <;> omega
  by_cases c1 : c = hd * 2 + 1
  · rw [if_pos c1, c1]
    unfold ringCell
    rw [show (hd * 2 + 1) / 2 = hd by omega, hz, if_neg (by omega), if_neg (by omega)]
  · by_cases c2 : c = hd * 2
    · rw [if_neg c1, if_pos c2, c2]
      unfold ringCell
      rw [show (hd * 2) / 2 = hd by omega, hz, if_neg (by omega), if_pos (by omega)]
    · rw [if_neg c1, if_neg c2]
      have hd1 : dist hd L (c / 2) = dist (pos hd L 1) L (c / 2) + 1 := by
        rw [hp]
        unfold dist
        split <;> split <;> split <;> omega
      unfold ringCell
      rw [hd1]
      by_cases hlt : dist (pos hd L 1) L (c / 2) < n
      · rw [if_pos hlt, if_pos (by omega), show s + 1 + dist (pos hd L 1) L (c / 2) = s + (dist (pos hd L 1) L (c / 2) + 1) by omega]
      · rw [if_neg hlt, if_neg (by omega)]

/-- The history behind the pointer h, its ring in block g: the positions from s on, n of them; nothing below B is its own. -/
structure Body (P : Nat → Value) (M : Nat → Int) (R : Int) (B : Nat) (w : World) (h g s n hd L m : Nat) : Prop where
  hB : B ≤ h
  gB : B ≤ g
  ne : h ≠ g
  box : w.rowIs h 46 6 (fld R s L hd n m g)
  ring : w.rowIs g 44 (2 * L) (ringCell P M s n hd L)

/-- The ring's length: a power of two, not too great. -/
def Pow (L : Nat) : Prop := ∃ e, L = 2 ^ e ∧ e < 40

theorem Pow.and {L : Nat} (h : Pow L) (a b : Nat) (ha : a + b < 2 ^ 62) : bits .and .i64 ((a : Int) + (b : Int)) ((L : Int) - 1) = (((a + b) % L : Nat) : Int) := by
  obtain ⟨e, hL, he⟩ := h
  have := and_mask e L (a + b) hL (by omega) ha
  rw [← this]
  simp

set_option maxHeartbeats 400000 in
theorem at_any (R : Int) (h g s n hd L m k : Nat) (w : World) (hbox : w.rowIs h 46 6 (fld R s L hd n m g)) (hp : Pow L) (hL : L ≤ 262144) (hL0 : 0 < L) (hk : k ≤ L) (hh : hd < L) :
    Calls Try.prog 21 #[.pointer (some ⟨h, 0, none⟩), .int .i64 k] w fun e w' => e = .returned (.pointer (some ⟨g, pos hd L k * 2, none⟩)) ∧ ∃ q, w' = w.drewN q := by
  have c2 := hbox.cell (i := 2) (by omega)
  have c3 := hbox.cell (i := 3) (by omega)
  simp only [fld] at c2 c3
  have hand := hp.and hd k (by omega)
  rw [pos_mod hh hk] at hand
  have hlt := pos_lt hh hk
  generalize pos hd L k = t at *
  go_enter Try.func21, Try.ntmps21
  go_wp2
  go_quiet (fail)
  go_wp2
  go_ret
  exact ⟨rfl, nq, rfl⟩

theorem run_make_kept (n : Nat) (hn : n ≤ 262144) (w : World) : (Instr.makeSlice 42 (.int .i64 (n : Int)) (.int .i64 (n : Int))).run Try.prog w = .ok (.slice (some ⟨w.heap.size, 0, none⟩) n n) (w.alloc (.cells (madeCells #[.slice none 0 0, .int .i32 0] (n * 2)) 44)) := by
  obtain ⟨i, hi, hz, hs, hb⟩ := info_parts (show (Try.prog.info? 44).map (fun i => (i.zero, i.size, i.bytes)) = some (some (.agg #[.slice none 0 0, .int .i32 0]), 2, 32) by kernel_rfl)
  have hr := run_make (P := Try.prog) w 42 44 i _ Try.underlying42 hi hz .i64 .i64 n n (by omega) (Int.le_refl _) (by rw [hb]; omega) (by omega)
  simp only [Int.toNat_natCast, hs] at hr
  exact hr

theorem ring_made (w : World) (P : Nat → Value) (M : Nat → Int) (s L : Nat) : (w.alloc (.cells (madeCells #[.slice none 0 0, .int .i32 0] (L * 2)) 44)).rowIs w.heap.size 44 (2 * L) (ringCell P M s 0 0 L) := by
  refine ⟨_, heap_alloc_new w _, by rw [size_madeCells]; omega, fun c hc => ?_⟩
  unfold ringCell
  rw [if_neg (by omega)]
  by_cases h : c % 2 = 0
  · rw [if_pos h]
    simp [madeCells, h, show c < L * 2 by omega]
  · rw [if_neg h]
    simp [madeCells, show c % 2 = 1 by omega, show c < L * 2 by omega]

set_option maxHeartbeats 400000 in
theorem make_any (P : Nat → Value) (M : Nat → Int) (R : Int) (w : World) :
    Calls Try.prog 12 #[.int .i64 R, .int .u64 0, .slice none 0 0, .slice none 0 0, .int .i64 0, .int .i64 0, .int .i64 0] w fun e w' =>
      e = .returned (.pointer (some ⟨w.heap.size + 1, 0, none⟩)) ∧ Body P M R w.heap.size w' (w.heap.size + 1) w.heap.size 0 0 0 0 0 ∧ Below w.heap.size w w' := by
  have hmk : ∀ w, (Instr.makeSlice 42 (.int .i64 0) (.int .i64 0)).run Try.prog w = .ok (.slice (some ⟨w.heap.size, 0, none⟩) 0 0) (w.alloc (.cells (madeCells #[.slice none 0 0, .int .i32 0] (0 * 2)) 44)) := fun w => run_make_kept 0 (by omega) w
  have hring := ring_made w P M 0 0
  go_enter Try.func12, Try.ntmps12
  go_wp2
  go_loop [22] (fun i => i = .int .i64 0) (fun _ => 0)
  case atStart => rfl
  case round =>
    obtain rfl := hrel
    go_wp2
    go_ret
    refine ⟨rfl, ⟨Nat.le_succ _, Nat.le_refl _, by omega, ?_, hring.alloc _⟩, ((Below.refl _ _).alloc (Nat.le_refl _) _).alloc (by simp) _⟩
    refine ⟨_, (congrArg _ (by simp)).trans (heap_alloc_new _ _), rfl, fun i hi => ?_⟩
    match i, hi with
    | 0, _ => rfl
    | 1, _ => rfl
    | 2, _ => rfl
    | 3, _ => rfl
    | 4, _ => rfl
    | 5, _ => rfl

end Go.Proofs.Qxb6605552a.Hk
