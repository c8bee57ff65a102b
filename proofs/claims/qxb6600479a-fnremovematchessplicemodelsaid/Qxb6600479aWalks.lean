/-
  THE WALKS OF THE SMALL FUNCTIONS THAT BOTH LAWS CALL.
-/
import Derived.Test.Qxb6600479aGrow
namespace Go.Proofs.Qxb6600479a.Scr
open Go.RowKit

/-- A slice's value leads to m cells, the c-th holding 'f c'. -/
def Seen (w : World) (a : Option Addr) (m : Nat) (f : Nat → Value) : Prop :=
  m = 0 ∨ ∃ b off, a = some ⟨b, off, none⟩ ∧ b < w.heap.size ∧ ∀ c, c < m → w.cell? ⟨b, off + c, none⟩ = some (f c)

theorem Seen.at {w : World} {a : Option Addr} {m : Nat} {f : Nat → Value} (h : Seen w a m f) {k : Nat} (hk : k < m) : ∃ b off, a = some ⟨b, off, none⟩ ∧ b < w.heap.size ∧ w.cell? ⟨b, off + k, none⟩ = some (f k) := by
  rcases h with rfl | ⟨b, off, rfl, hb, hc⟩
  · omega
  · exact ⟨b, off, rfl, hb, hc k hk⟩

theorem Seen.below {w w' : World} {a : Option Addr} {m : Nat} {f : Nat → Value} (h : Seen w a m f) (hb : Below w.heap.size w w') : Seen w' a m f := by
  rcases h with rfl | ⟨b, off, rfl, hlt, hc⟩
  · exact .inl rfl
  · exact .inr ⟨b, off, rfl, Nat.lt_of_lt_of_le hlt hb.size, fun i hi => (hb.cell (by exact hlt)).trans (hc i hi)⟩

theorem Seen.congr {w : World} {a : Option Addr} {m : Nat} {f g : Nat → Value} (h : Seen w a m f) (e : ∀ i, i < m → f i = g i) : Seen w a m g := by
  rcases h with rfl | ⟨b, off, rfl, hlt, hc⟩
  · exact .inl rfl
  · exact .inr ⟨b, off, rfl, hlt, fun i hi => by rw [← e i hi]; exact hc i hi⟩

theorem Own.seen {B : Nat} {w : World} {t : TypeId} {a : Option Addr} {n c : Nat} {f : Nat → Value} (h : Own B w t a n c f) : Seen w a n f := by
  rcases h with ⟨_, rfl, _⟩ | ⟨g, rfl, _, hc, hr⟩
  · exact .inl rfl
  · exact .inr ⟨g, 0, rfl, hr.lt, fun i hi => by rw [Nat.zero_add]; exact hr.cell (by omega)⟩

theorem seen_of {w : World} {x : Addr} {m : Nat} {f : Nat → Value} (h : ∀ c, c < m → w.cell? (x.add c) = some (f c)) : Seen w (some x) m f := by
  by_cases e : m = 0
  · exact .inl e
  · obtain ⟨b, off, spot⟩ := x
    have hs : spot = none := by simpa [Addr.add] using World.cell?_spot (h 0 (by omega))
    subst hs
    have hc : ∀ c, c < m → w.cell? ⟨b, off + c, none⟩ = some (f c) := fun c hc => by rw [← Addr.add_lit]; exact h c hc
    exact .inr ⟨b, off, rfl, cell_lt (hc 0 (by omega)), hc⟩

/-- How the count of bytes ends. -/
def BytesEnd (w : World) (n : Nat) (S : Nat → ByteArray) (e : Ending) (w' : World) : Prop := ∃ b : Bool, e = .returned (.bool b) ∧ (b = true → ∀ i, i < n → (S i).size ≤ 1048576) ∧ w = w'

set_option maxRecDepth 100000 in
set_option maxHeartbeats 1000000 in
theorem bytes_put (a1 : Option Addr) (n1 c1 : Nat) (a2 : Option Addr) (n2 c2 : Nat) (S : Nat → ByteArray) (fill x r wd n : Int) (w : World) (h1 : n1 ≤ maxLen) (h2 : n2 ≤ maxLen) (hs : Seen w a2 n2 (strs S)) (hz : ∀ i, i < n2 → (S i).size ≤ maxLen) :
    Calls Try.prog 9 #[.slice a1 n1 c1, .slice a2 n2 c2, .int .i32 fill, .int .i64 x, .int .i32 r, .int .i64 wd, .int .i64 n] w fun e w' => BytesEnd w n2 S e w' := by
  unfold maxLen at h1 h2 hz
  have HZ : Hid (∀ i, i < n2 → (S i).size ≤ 9223372036854775807) := hz
  have hno : BytesEnd w n2 S (.returned (.bool false)) w := ⟨false, rfl, fun h => (by cases h), rfl⟩
  have hyes : (∀ i, i < n2 → (S i).size ≤ 1048576) → BytesEnd w n2 S (.returned (.bool true)) w := fun h => ⟨true, rfl, fun _ => h, rfl⟩
  have HY : Hid ((∀ i, i < n2 → (S i).size ≤ 1048576) → BytesEnd w n2 S (.returned (.bool true)) w) := hyes
  clear hz hyes
  by_cases g1 : n1 ≤ 1048576
  · by_cases g2 : n2 ≤ 1048576
    · by_cases g3 : n1 + n2 ≤ 1048576
      · go_enter Try.func9, Try.ntmps9
        go_wp2
        go_loop [15, 16] (fun zn zi => ∃ (s : Int) (k : Nat), 0 ≤ s ∧ s ≤ 1048576 ∧ k ≤ n2 ∧ zn = .int .i64 s ∧ zi = .int .i64 k ∧ ∀ i, i < k → (S i).size ≤ 1048576) (fun _ zi => n2 - (intOf zi).toNat)
        case atStart => exact ⟨_, 0, by omega, by omega, Nat.zero_le _, rfl, rfl, fun i hi => (by omega)⟩
        case round =>
        obtain ⟨s, k, hs0, hsl, hk, rfl, rfl, hall⟩ := hrel
        by_cases hlt : k < n2
        · obtain ⟨b, off, rfl, hb, hc⟩ := hs.at hlt
          unfold strs at hc
          have hlk := HZ.out k hlt
          clear hs
          have hnext : (S k).size ≤ 1048576 → ∀ i, i < k + 1 → (S i).size ≤ 1048576 := fun h i hi => by
            by_cases e : i = k
            · rw [e]; exact h
            · exact hall i (by omega)
          have HN : Hid ((S k).size ≤ 1048576 → ∀ i, i < k + 1 → (S i).size ≤ 1048576) := hnext
          clear hall hnext
          generalize hsk : S k = sk at hc hlk HN
          clear hsk
          by_cases h4 : sk.size ≤ 1048576
          · have HN' : Hid (∀ i, i < k + 1 → (S i).size ≤ 1048576) := HN.out h4
            clear HN
            by_cases h5 : s + sk.size ≤ 1048576
            · go_wp2
              go_round
              case rel => exact ⟨_, k + 1, by omega, h5, by omega, rfl, by go_num, HN'.out⟩
              case measure => simp [intOf]; omega
            · go_wp2
              go_ret
              exact hno
          · go_wp2
            go_ret
            exact hno
        · have HA : Hid (∀ i, i < k → (S i).size ≤ 1048576) := hall
          clear hall hs
          go_wp2
          go_ret
          exact HY.out fun i hi => HA.out i (by omega)
      · clear hs
        go_enter Try.func9, Try.ntmps9
        go_wp2
        go_ret
        exact hno
    · clear hs
      go_enter Try.func9, Try.ntmps9
      go_wp2
      go_ret
      exact hno
  · clear hs
    go_enter Try.func9, Try.ntmps9
    go_wp2
    go_ret
    exact hno

/-- How the test of the size ends. -/
def SizeEnd (w : World) (n1 n2 : Nat) (e : Ending) (w' : World) : Prop := ∃ b : Bool, e = .returned (.bool b) ∧ (b = true → n1 ≤ 262144 ∧ n2 ≤ 65536) ∧ w = w'

set_option maxRecDepth 100000 in
set_option maxHeartbeats 1000000 in
theorem size_any (a1 : Option Addr) (n1 c1 : Nat) (a2 : Option Addr) (n2 c2 : Nat) (S : Nat → ByteArray) (w : World) (h1 : n1 ≤ maxLen) (h2 : n2 ≤ maxLen) (hs : Seen w a2 n2 (strs S)) (hz : ∀ i, i < n2 → (S i).size ≤ 1048576) :
    Calls Try.prog 10 #[.slice a1 n1 c1, .slice a2 n2 c2] w fun e w' => SizeEnd w n1 n2 e w' := by
  unfold maxLen at h1 h2
  have HZ : Hid (∀ i, i < n2 → (S i).size ≤ 1048576) := hz
  have hno : SizeEnd w n1 n2 (.returned (.bool false)) w := ⟨false, rfl, fun h => (by cases h), rfl⟩
  have hyes : n1 ≤ 262144 → n2 ≤ 65536 → ∀ b, SizeEnd w n1 n2 (.returned (.bool b)) w := fun h h' b => ⟨b, rfl, fun _ => ⟨h, h'⟩, rfl⟩
  clear hz
  by_cases g1 : n1 ≤ 262144
  · by_cases g2 : n2 ≤ 65536
    · have HY : Hid (∀ b, SizeEnd w n1 n2 (.returned (.bool b)) w) := hyes g1 g2
      clear hyes
      go_enter Try.func10, Try.ntmps10
      go_wp2
      go_loop [5, 6] (fun zn zi => ∃ (s : Int) (k : Nat), 0 ≤ s ∧ s ≤ 2097152 ∧ k ≤ n2 ∧ zn = .int .i64 s ∧ zi = .int .i64 k) (fun _ zi => n2 - (intOf zi).toNat)
      case atStart => exact ⟨_, 0, by omega, by omega, Nat.zero_le _, rfl, rfl⟩
      case round =>
      obtain ⟨s, k, hs0, hsl, hk, rfl, rfl⟩ := hrel
      by_cases hlt : k < n2
      · obtain ⟨b, off, rfl, hb, hc⟩ := hs.at hlt
        unfold strs at hc
        have hlk := HZ.out k hlt
        clear hs
        generalize S k = sk at hc hlk
        by_cases h5 : s + sk.size ≤ 1048576
        · go_wp2
          go_round
          case rel => exact ⟨_, k + 1, by omega, by omega, by omega, rfl, by go_num⟩
          case measure => simp [intOf]; omega
        · go_wp2
          go_ret
          exact hno
      · clear hs
        go_wp2
        go_ret
        exact HY.out _
    · clear hs hyes
      go_enter Try.func10, Try.ntmps10
      go_wp2
      go_ret
      exact hno
  · clear hs hyes
    go_enter Try.func10, Try.ntmps10
    go_wp2
    go_ret
    exact hno

/-- How the test of the shape ends. -/
def FitEnd (w : World) (a2 : Option Addr) (n1 n2 : Nat) (e : Ending) (w' : World) : Prop := ∃ b : Bool, e = .returned (.bool b) ∧ (b = true → a2 = none ∨ n2 = n1) ∧ w = w'

theorem fit_any (a1 : Option Addr) (n1 c1 : Nat) (a2 : Option Addr) (n2 c2 : Nat) (w : World) :
    Calls Try.prog 11 #[.slice a1 n1 c1, .slice a2 n2 c2] w fun e w' => FitEnd w a2 n1 n2 e w' := by
  have he := fun w => Lib.run_eql_slice_nil (P := Try.prog) w 23 9 a2 n2 c2 0 0 Try.underlying23
  cases a2 with
  | none =>
    go_enter Try.func11, Try.ntmps11
    go_wp2
    go_ret
    exact ⟨true, rfl, fun _ => .inl rfl, rfl⟩
  | some x =>
    by_cases e : n2 = n1
    · subst e
      go_enter Try.func11, Try.ntmps11
      go_wp2
      go_ret
      exact ⟨_, rfl, fun _ => .inr rfl, rfl⟩
    · have hb : ((n2 : Int) == (n1 : Int)) = false := by simp; omega
      clear e
      go_enter Try.func11, Try.ntmps11
      go_wp2
      go_ret
      exact ⟨false, rfl, fun h => (by cases h), rfl⟩

/-- A new row, k of its cells written. -/
def Fill (w wr : World) (t : TypeId) (n k : Nat) (f : Nat → Value) (z : Value) : Prop := wr.rowIs w.heap.size t n (fun j => if j < k then f j else z) ∧ Below w.heap.size w wr

theorem fill_start (w : World) (t : TypeId) (n : Nat) (f : Nat → Value) (z : Value) : Fill w (w.alloc (.cells (madeCells #[z] n) t)) t n 0 f z :=
  ⟨(World.rowIs_made w z n t).congr (fun _ _ => by simp), (Below.refl _ _).alloc (Nat.le_refl _) _⟩

theorem set_congr {f : Nat → Value} {z : Value} {k : Nat} (j : Nat) : (if j = k then f k else if j < k then f j else z) = (if j < k + 1 then f j else z) := by
  by_cases e : j = k
  · subst e; simp
  · by_cases h : j < k
    · simp [e, h, show j < k + 1 by omega]
    · simp [e, h, show ¬ j < k + 1 by omega]

theorem fill_step {w wr : World} {t : TypeId} {n k : Nat} {f : Nat → Value} {z : Value} (h : Fill w wr t n k f z) : Fill w (wr.setCell ⟨w.heap.size, k, none⟩ (f k)) t n (k + 1) f z :=
  ⟨(h.1.set _ _).congr (fun j _ => set_congr j), h.2.setCell (Nat.le_refl _) _⟩

theorem fill_done {w wr : World} {t : TypeId} {n : Nat} {f : Nat → Value} {z : Value} (h : Fill w wr t n n f z) : wr.rowIs w.heap.size t n f := h.1.congr (fun j hj => by simp [hj])

/-- How a clone ends: as many, holding the same; nil where it was nil. -/
def Cloned (w : World) (t : TypeId) (a : Option Addr) (n : Nat) (f : Nat → Value) (e : Ending) (w' : World) : Prop := ∃ a', e = .returned (.slice a' n n) ∧ Own w.heap.size w' t a' n n f ∧ (a' = none ↔ a = none) ∧ Below w.heap.size w w'

set_option maxRecDepth 100000 in
set_option maxHeartbeats 400000 in
theorem cloneStr_any (a : Option Addr) (n c : Nat) (S : Nat → ByteArray) (w : World) (hn : n ≤ 262144) (h0 : a = none → n = 0) (hs : Seen w a n (strs S)) :
    Calls Try.prog 13 #[.slice a n c] w fun e w' => Cloned w 9 a n (strs S) e w' := by
  have he := fun w => Lib.run_eql_slice_nil (P := Try.prog) w 23 9 a n c 0 0 Try.underlying23
  cases a with
  | none =>
    obtain rfl := h0 rfl
    clear h0
    go_enter Try.func13, Try.ntmps13
    go_wp2
    go_ret
    exact ⟨_, rfl, .inl ⟨rfl, rfl, rfl⟩, Iff.rfl, Below.refl _ _⟩
  | some x =>
    clear h0
    have hmk := run_make_row' (P := Try.prog) 23 9 (.string ByteArray.empty) 16 Try.underlying23 Try.info9 rfl .i64 .i64 n (by omega) (by omega)
    go_enter Try.func13, Try.ntmps13
    go_wp2
    go_loopw [4] (fun sl wr => ∃ k : Nat, k ≤ n ∧ sl = .int .i64 k ∧ Fill w wr 9 n k (strs S) (.string ByteArray.empty)) (fun sl _ => n - (intOf sl).toNat)
    case atStart => exact ⟨0, Nat.zero_le _, rfl, fill_start _ _ _ _ _⟩
    case round =>
      obtain ⟨k, hk, rfl, hF⟩ := hrel
      clear hmk he
      by_cases hlt : k < n
      · obtain ⟨b, off, ex, hb, hc⟩ := (hs.below hF.2).at hlt
        obtain rfl := Option.some.inj ex
        have f1 := hF.1.frozen k
        have v1 := hF.1.cell hlt
        simp only [Nat.lt_irrefl, if_false] at v1
        have RF := fill_step hF
        unfold strs at hc RF
        have HR : Hid _ := RF
        clear hF RF hs
        generalize S k = sk at *
        go_wp2
        go_roundw
        case rel => exact ⟨k + 1, by omega, by go_num, HR.out⟩
        case measure => simp [intOf]; omega
      · obtain rfl : k = n := by omega
        clear hs
        go_wp2
        go_ret
        exact ⟨_, rfl, .inr ⟨_, rfl, Nat.le_refl _, Nat.le_refl _, fill_done hF⟩, by simp, hF.2⟩

set_option maxRecDepth 100000 in
set_option maxHeartbeats 400000 in
theorem cloneRun_any (a : Option Addr) (n c : Nat) (C : Nat → Int) (w : World) (hn : n ≤ 262144) (h0 : a = none → n = 0) (hs : Seen w a n (runes C)) :
    Calls Try.prog 12 #[.slice a n c] w fun e w' => Cloned w 21 a n (runes C) e w' := by
  have he := fun w => Lib.run_eql_slice_nil (P := Try.prog) w 22 21 a n c 0 0 Try.underlying22
  cases a with
  | none =>
    obtain rfl := h0 rfl
    clear h0
    go_enter Try.func12, Try.ntmps12
    go_wp2
    go_ret
    exact ⟨_, rfl, .inl ⟨rfl, rfl, rfl⟩, Iff.rfl, Below.refl _ _⟩
  | some x =>
    clear h0
    have hmk := run_make_row' (P := Try.prog) 22 21 (.int .i32 0) 4 Try.underlying22 Try.info21 rfl .i64 .i64 n (by omega) (by omega)
    go_enter Try.func12, Try.ntmps12
    go_wp2
    go_loopw [4] (fun sl wr => ∃ k : Nat, k ≤ n ∧ sl = .int .i64 k ∧ Fill w wr 21 n k (runes C) (.int .i32 0)) (fun sl _ => n - (intOf sl).toNat)
    case atStart => exact ⟨0, Nat.zero_le _, rfl, fill_start _ _ _ _ _⟩
    case round =>
      obtain ⟨k, hk, rfl, hF⟩ := hrel
      clear hmk he
      by_cases hlt : k < n
      · obtain ⟨b, off, ex, hb, hc⟩ := (hs.below hF.2).at hlt
        obtain rfl := Option.some.inj ex
        have f1 := hF.1.frozen k
        have v1 := hF.1.cell hlt
        simp only [Nat.lt_irrefl, if_false] at v1
        have RF := fill_step hF
        unfold runes at hc RF
        have HR : Hid _ := RF
        clear hF RF hs
        generalize C k = sk at *
        go_wp2
        go_roundw
        case rel => exact ⟨k + 1, by omega, by go_num, HR.out⟩
        case measure => simp [intOf]; omega
      · obtain rfl : k = n := by omega
        clear hs
        go_wp2
        go_ret
        exact ⟨_, rfl, .inr ⟨_, rfl, Nat.le_refl _, Nat.le_refl _, fill_done hF⟩, by simp, hF.2⟩

set_option maxRecDepth 100000 in
set_option maxHeartbeats 400000 in
theorem sameRun_any (a1 : Option Addr) (n c1 : Nat) (a2 : Option Addr) (c2 : Nat) (C : Nat → Int) (w : World) (hn : n ≤ 1048576) (h1 : Seen w a1 n (runes C)) (h2 : Seen w a2 n (runes C)) :
    Calls Try.prog 16 #[.slice a1 n c1, .slice a2 n c2] w fun e w' => e = .returned (.bool true) ∧ ∃ q, w' = w.drewN q := by
  go_enter Try.func16, Try.ntmps16
  go_wp2
  go_loopw [5] (fun sl wr => ∃ k q : Nat, k ≤ n ∧ sl = .int .i64 k ∧ wr = w.drewN q) (fun sl _ => n - (intOf sl).toNat)
  case atStart => exact ⟨0, 0, Nat.zero_le _, rfl, rfl⟩
  case round =>
    obtain ⟨k, q, hk, rfl, rfl⟩ := hrel
    by_cases hlt : k < n
    · obtain ⟨b1, o1, rfl, _, k1⟩ := h1.at hlt
      obtain ⟨b2, o2, rfl, _, k2⟩ := h2.at hlt
      unfold runes at k1 k2
      generalize C k = sk at *
      clear h1 h2
      go_wp2
      go_quiet (fail)
      go_wp2
      go_roundw
      case rel => exact ⟨k + 1, q + nq, by omega, by go_num, rfl⟩
      case measure => simp [intOf]; omega
    · go_wp2
      go_ret
      exact ⟨rfl, q, rfl⟩

set_option maxRecDepth 100000 in
set_option maxHeartbeats 400000 in
theorem sameStr_any (a1 : Option Addr) (n c1 : Nat) (a2 : Option Addr) (c2 : Nat) (S : Nat → ByteArray) (w : World) (hn : n ≤ 1048576) (ha : a1 = none ↔ a2 = none) (h1 : Seen w a1 n (strs S)) (h2 : Seen w a2 n (strs S)) :
    Calls Try.prog 17 #[.slice a1 n c1, .slice a2 n c2] w fun e w' => e = .returned (.bool true) ∧ ∃ q, w' = w.drewN q := by
  have he1 := fun w => Lib.run_eql_slice_nil (P := Try.prog) w 23 9 a1 n c1 0 0 Try.underlying23
  have he2 := fun w => Lib.run_eql_slice_nil (P := Try.prog) w 23 9 a2 n c2 0 0 Try.underlying23
  have hbb : a2.isNone = a1.isNone := by
    cases a1 <;> cases a2 <;> simp_all
  have hbn : (a1.isNone != a1.isNone) = false := by simp
  rw [hbb] at he2
  clear ha hbb
  generalize a1.isNone = b at *
  go_enter Try.func17, Try.ntmps17
  go_wp2
  go_loopw [5] (fun sl wr => ∃ k q : Nat, k ≤ n ∧ sl = .int .i64 k ∧ wr = w.drewN q) (fun sl _ => n - (intOf sl).toNat)
  case atStart => exact ⟨0, 0, Nat.zero_le _, rfl, rfl⟩
  case round =>
    obtain ⟨k, q, hk, rfl, rfl⟩ := hrel
    by_cases hlt : k < n
    · obtain ⟨b1, o1, rfl, _, k1⟩ := h1.at hlt
      obtain ⟨b2, o2, rfl, _, k2⟩ := h2.at hlt
      unfold strs at k1 k2
      generalize S k = sk at *
      clear h1 h2 he1 he2
      go_wp2
      go_quiet (fail)
      go_wp2
      go_roundw
      case rel => exact ⟨k + 1, q + nq, by omega, by go_num, rfl⟩
      case measure => simp [intOf]; omega
    · go_wp2
      go_ret
      exact ⟨rfl, q, rfl⟩
end Go.Proofs.Qxb6600479a.Scr
