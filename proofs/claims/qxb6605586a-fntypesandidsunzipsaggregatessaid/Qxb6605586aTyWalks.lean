/-
  THE WALKS OF WHAT 'FnTypesAndIDsUnzipsAggregates' CALLS.
-/
import Derived.Test.Qxb6605586aBase
namespace Go.Proofs.Qxb6605586a.Sl
open Go.RowKit

def strs (S : Nat → ByteArray) (i : Nat) : Value := .string (S i)

/-- It answers a bool, and turns nothing. -/
def BoolEnd (w : World) (e : Ending) (w' : World) : Prop := ∃ b : Bool, e = .returned (.bool b) ∧ w = w'
/-- It answers an int, and turns nothing. -/
def IntEnd (w : World) (e : Ending) (w' : World) : Prop := ∃ t : Int, e = .returned (.int .i64 t) ∧ w = w'

set_option maxRecDepth 100000 in
set_option maxHeartbeats 1000000 in
theorem tyBytes_any (a1 : Option Addr) (n1 c1 : Nat) (a2 : Option Addr) (n2 c2 : Nat) (S1 S2 : Nat → ByteArray) (w : World) (h1 : n1 ≤ maxLen) (h2 : n2 ≤ maxLen) (hs1 : Seen w a1 n1 (strs S1)) (hs2 : Seen w a2 n2 (strs S2)) (hz1 : ∀ i, i < n1 → (S1 i).size ≤ maxLen) (hz2 : ∀ i, i < n2 → (S2 i).size ≤ maxLen) :
    Calls Try.prog 17 #[.slice a1 n1 c1, .slice a2 n2 c2] w fun e w' => BoolEnd w e w' := by
  unfold maxLen at h1 h2 hz1 hz2
  have HZ1 : Hid (∀ i, i < n1 → (S1 i).size ≤ 9223372036854775807) := hz1
  have HZ2 : Hid (∀ i, i < n2 → (S2 i).size ≤ 9223372036854775807) := hz2
  clear hz1 hz2
  by_cases g1 : n1 ≤ 1048576
  · go_enter Try.func17, Try.ntmps17
    go_wp2
    go_loop [5, 6] (fun zn zi => ∃ (s : Int) (k : Nat), 0 ≤ s ∧ s ≤ 1048576 ∧ k ≤ n1 ∧ zn = .int .i64 s ∧ zi = .int .i64 k) (fun _ zi => n1 - (intOf zi).toNat)
    case atStart => exact ⟨_, 0, by omega, by omega, Nat.zero_le _, rfl, rfl⟩
    case round =>
    obtain ⟨s, k, hs0, hsl, hk, rfl, rfl⟩ := hrel
    by_cases hlt : k < n1
    · obtain ⟨b, off, rfl, hb, hc⟩ := hs1.at hlt
      unfold strs at hc
      have hlk := HZ1.out k hlt
      clear hs1 hs2
      generalize S1 k = sk at *
      by_cases h4 : sk.size ≤ 1048576
      · by_cases h5 : s + sk.size ≤ 1048576
        · go_wp2
          go_round
          case rel => exact ⟨_, k + 1, by omega, h5, by omega, rfl, by go_num⟩
          case measure => simp [intOf]; omega
        · go_wp2
          go_ret
          exact ⟨_, rfl, rfl⟩
      · go_wp2
        go_ret
        exact ⟨_, rfl, rfl⟩
    clear HZ1 hs1
    by_cases g2 : n2 ≤ 1048576
    · by_cases g3 : s + n2 ≤ 1048576
      · go_wp2
        go_loop [5, 7] (fun zn zi => ∃ (s : Int) (k : Nat), 0 ≤ s ∧ s ≤ 1048576 ∧ k ≤ n2 ∧ zn = .int .i64 s ∧ zi = .int .i64 k) (fun _ zi => n2 - (intOf zi).toNat)
        case atStart => exact ⟨_, 0, by omega, g3, Nat.zero_le _, rfl, rfl⟩
        case round =>
        clear hs0 hsl g3 hk hlt
        obtain ⟨s2, k2, hs0, hsl, hk, rfl, rfl⟩ := hrel
        by_cases hlt : k2 < n2
        · obtain ⟨b, off, rfl, hb, hc⟩ := hs2.at hlt
          unfold strs at hc
          have hlk := HZ2.out k2 hlt
          clear hs2
          generalize S2 k2 = sk at *
          by_cases h4 : sk.size ≤ 1048576
          · by_cases h5 : s2 + sk.size ≤ 1048576
            · go_wp2
              go_round
              case rel => exact ⟨_, k2 + 1, by omega, h5, by omega, rfl, by go_num⟩
              case measure => simp [intOf]; omega
            · go_wp2
              go_ret
              exact ⟨_, rfl, rfl⟩
          · go_wp2
            go_ret
            exact ⟨_, rfl, rfl⟩
        go_wp2
        go_ret
        exact ⟨_, rfl, rfl⟩
      · go_wp2
        go_ret
        exact ⟨_, rfl, rfl⟩
    · go_wp2
      go_ret
      exact ⟨_, rfl, rfl⟩
  · go_enter Try.func17, Try.ntmps17
    go_wp2
    go_ret
    exact ⟨_, rfl, rfl⟩

set_option maxRecDepth 100000 in
set_option maxHeartbeats 1000000 in
theorem strBytes_any (a1 : Option Addr) (n1 c1 : Nat) (a2 : Option Addr) (n2 c2 : Nat) (S1 S2 : Nat → ByteArray) (w : World) (h1 : n1 ≤ 65536) (h2 : n2 ≤ 65536) (hs1 : Seen w a1 n1 (strs S1)) (hs2 : Seen w a2 n2 (strs S2)) (hz1 : ∀ i, i < n1 → (S1 i).size ≤ maxLen) (hz2 : ∀ i, i < n2 → (S2 i).size ≤ maxLen) :
    Calls Try.prog 18 #[.slice a1 n1 c1, .slice a2 n2 c2] w fun e w' => IntEnd w e w' := by
  unfold maxLen at hz1 hz2
  have HZ1 : Hid (∀ i, i < n1 → (S1 i).size ≤ 9223372036854775807) := hz1
  have HZ2 : Hid (∀ i, i < n2 → (S2 i).size ≤ 9223372036854775807) := hz2
  clear hz1 hz2
  by_cases g1 : 16 * (n1 + n2) ≤ 1048576
  · go_enter Try.func18, Try.ntmps18
    go_wp2
    go_loop [5, 6] (fun zn zi => ∃ (s : Int) (k : Nat), 0 ≤ s ∧ s ≤ 1048576 ∧ k ≤ n1 ∧ zn = .int .i64 s ∧ zi = .int .i64 k) (fun _ zi => n1 - (intOf zi).toNat)
    case atStart => exact ⟨_, 0, by omega, by omega, Nat.zero_le _, rfl, rfl⟩
    case round =>
    obtain ⟨s, k, hs0, hsl, hk, rfl, rfl⟩ := hrel
    by_cases hlt : k < n1
    · obtain ⟨b, off, rfl, hb, hc⟩ := hs1.at hlt
      unfold strs at hc
      have hlk := HZ1.out k hlt
      clear hs1 hs2
      generalize S1 k = sk at *
      by_cases h5 : s + sk.size ≤ 1048576
      · go_wp2
        go_round
        case rel => exact ⟨_, k + 1, by omega, h5, by omega, rfl, by go_num⟩
        case measure => simp [intOf]; omega
      · go_wp2
        go_ret
        exact ⟨_, rfl, rfl⟩
    clear HZ1 hs1
    go_wp2
    go_loop [5, 7] (fun zn zi => ∃ (s : Int) (k : Nat), 0 ≤ s ∧ s ≤ 1048576 ∧ k ≤ n2 ∧ zn = .int .i64 s ∧ zi = .int .i64 k) (fun _ zi => n2 - (intOf zi).toNat)
    case atStart => exact ⟨_, 0, hs0, hsl, Nat.zero_le _, rfl, rfl⟩
    case round =>
    clear hs0 hsl hk hlt
    obtain ⟨s2, k2, hs0, hsl, hk, rfl, rfl⟩ := hrel
    by_cases hlt : k2 < n2
    · obtain ⟨b, off, rfl, hb, hc⟩ := hs2.at hlt
      unfold strs at hc
      have hlk := HZ2.out k2 hlt
      clear hs2
      generalize S2 k2 = sk at *
      by_cases h5 : s2 + sk.size ≤ 1048576
      · go_wp2
        go_round
        case rel => exact ⟨_, k2 + 1, by omega, h5, by omega, rfl, by go_num⟩
        case measure => simp [intOf]; omega
      · go_wp2
        go_ret
        exact ⟨_, rfl, rfl⟩
    go_wp2
    go_ret
    exact ⟨_, rfl, rfl⟩
  · go_enter Try.func18, Try.ntmps18
    go_wp2
    go_ret
    exact ⟨_, rfl, rfl⟩

theorem Try.info9 : (Try.prog.info? 9).map (fun i => (i.zero, i.size, i.bytes)) = some (some (.string ByteArray.empty), 1, 16) := by kernel_rfl

/-- A new row, k of its cells written. -/
def Fill (w wr : World) (t : TypeId) (n k : Nat) (f : Nat → Value) (z : Value) : Prop := wr.rowIs w.heap.size t n (fun j => if j < k then f j else z) ∧ Below w.heap.size w wr

theorem fill_start (w : World) (t : TypeId) (n : Nat) (f : Nat → Value) (z : Value) : Fill w (w.alloc (.cells (madeCells #[z] n) t)) t n 0 f z :=
  ⟨(World.rowIs_made w z n t).congr (fun _ _ => by simp), (Below.refl _ _).alloc (Nat.le_refl _) _⟩

theorem set_congr {f : Nat → Value} {z : Value} {k : Nat} (j : Nat) : (if j = k then f k else if j < k then f j else z) = (if j < k + 1 then f j else z) := by
  by_cases e : j = k
  · subst e; simp
  · by_cases h : j < k
    · simp [e, h, show j < k + 1 by omega]
    · simp [e, h, show ¬ j < k + 1 by omega]

theorem fill_step {w wr : World} {t : TypeId} {n k : Nat} {f : Nat → Value} {z : Value} (h : Fill w wr t n k f z) : Fill w (wr.setCell ⟨w.heap.size, k, none⟩ (f k)) t n (k + 1) f z :=
  ⟨(h.1.set _ _).congr (fun j _ => set_congr j), h.2.setCell (Nat.le_refl _) _⟩

theorem fill_done {w wr : World} {t : TypeId} {n : Nat} {f : Nat → Value} {z : Value} (h : Fill w wr t n n f z) : wr.rowIs w.heap.size t n f := h.1.congr (fun j hj => by simp [hj])

/-- How a clone ends: as many, holding the same. -/
def Cloned (w : World) (n m : Nat) (f : Nat → Value) (e : Ending) (w' : World) : Prop := ∃ a c, e = .returned (.slice a n c) ∧ Seen w' a m f ∧ Below w.heap.size w w'

set_option maxRecDepth 100000 in
set_option maxHeartbeats 400000 in
theorem cloneStr_any (a : Option Addr) (n c : Nat) (S : Nat → ByteArray) (w : World) (hn : n ≤ 65536) (h0 : a = none → n = 0) (hs : Seen w a n (strs S)) :
    Calls Try.prog 19 #[.slice a n c] w fun e w' => Cloned w n n (strs S) e w' := by
  have he := fun w => Lib.run_eql_slice_nil (P := Try.prog) w 36 9 a n c 0 0 Try.underlying36
  cases a with
  | none =>
    obtain rfl := h0 rfl
    clear h0
    go_enter Try.func19, Try.ntmps19
    go_wp2
    go_ret
    exact ⟨_, _, rfl, .inl rfl, Below.refl _ _⟩
  | some x =>
    clear h0
    have hmk := run_make_row' (P := Try.prog) 36 9 (.string ByteArray.empty) 16 Try.underlying36 Try.info9 rfl .i64 .i64 n (by omega) (by omega)
    go_enter Try.func19, Try.ntmps19
    go_wp2
    go_loopw [4] (fun sl wr => ∃ k : Nat, k ≤ n ∧ sl = .int .i64 k ∧ Fill w wr 9 n k (strs S) (.string ByteArray.empty)) (fun sl _ => n - (intOf sl).toNat)
    case atStart => exact ⟨0, Nat.zero_le _, rfl, fill_start _ _ _ _ _⟩
    case round =>
      obtain ⟨k, hk, rfl, hF⟩ := hrel
      clear hmk he
      by_cases hlt : k < n
      · obtain ⟨b, off, ex, hb, hc⟩ := (hs.below hF.2).at hlt
        obtain rfl := Option.some.inj ex
        have f1 := hF.1.frozen k
        have v1 := hF.1.cell hlt
        simp only [Nat.lt_irrefl, if_false] at v1
        have RF := fill_step hF
        unfold strs at hc RF
        have HR : Hid _ := RF
        clear hF RF hs
        generalize S k = sk at *
        go_wp2
        go_roundw
        case rel => exact ⟨k + 1, by omega, by go_num, HR.out⟩
        case measure => simp [intOf]; omega
      · obtain rfl : k = n := by omega
        clear hs
        go_wp2
        go_ret
        exact ⟨_, _, rfl, .row (fill_done hF), hF.2⟩
end Go.Proofs.Qxb6605586a.Sl
