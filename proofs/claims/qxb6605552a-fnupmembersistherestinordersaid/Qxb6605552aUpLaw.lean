/-
  THE WALK OF 'FnUpMembersIsTheRestInOrder' OUT OF ITS CALLEES' CONTRACTS.
-/
import Derived.Test.Qxb6605552aUpWalks
import Derived.WalkSpells
import Derived.Laws.CopyOwn
namespace Go.Proofs.Qxb6605552a.Up
open Go.RowKit

set_option maxHeartbeats 400000 in
/-- More than 4096 are listed: nothing is asked. -/
theorem law_long (n : Int) (a : Option Addr) (len cap : Nat) (w : World) (h : 4096 < len) (hm : len ≤ maxLen) :
    Calls Try.prog 3 #[.int .i64 n, .slice a len cap] w fun e w' => e = .returned (.bool true) ∧ w = w' := by
  unfold maxLen at hm
  by_cases hb : len ≤ 1048576
  · go_enter Try.func3, Try.ntmps3
    go_wp2_with (first | (go_at_call 6; refine (bytes_yes _ _ _ _ _ hb).mono ?_; rintro e w' ⟨rfl, rfl⟩))
    go_ret
    exact ⟨rfl, rfl⟩
  · have hb' : 1048576 < len := by omega
    go_enter Try.func3, Try.ntmps3
    go_wp2_with (first | (go_at_call 6; refine (bytes_no _ _ _ _ _ hb').mono ?_; rintro e w' ⟨rfl, rfl⟩))
    go_ret
    exact ⟨rfl, rfl⟩

set_option maxHeartbeats 400000 in
/-- More than 65536 members: nothing is asked. -/
theorem law_wide (n : Int) (a : Option Addr) (len cap : Nat) (w : World) (h : len ≤ 4096) (hn : 65536 < n) :
    Calls Try.prog 3 #[.int .i64 n, .slice a len cap] w fun e w' => e = .returned (.bool true) ∧ w = w' := by
  have hb : len ≤ 1048576 := by omega
  go_enter Try.func3, Try.ntmps3
  go_wp2_with (first | (go_at_call 6; refine (bytes_yes _ _ _ _ _ hb).mono ?_; rintro e w' ⟨rfl, rfl⟩))
  go_ret
  exact ⟨rfl, rfl⟩

theorem Try.info4 : (Try.prog.info? 4).map (fun i => (i.zero, i.size, i.bytes)) = some (some (.bool false), 1, 1) := by kernel_rfl
theorem Try.size3 : (Try.prog.info? 3).map (·.size) = some 1 := by kernel_rfl

theorem cell_lt {w : World} {a : Addr} {v : Value} (h : w.cell? a = some v) : a.block < w.heap.size := by
  unfold World.cell? at h
  split at h
  · rename_i hb; exact (Array.getElem?_eq_some_iff.1 hb).1
  · cases h

theorem add_block (x : Addr) (i : Nat) : (x.add i).block = x.block := by unfold Addr.add; split <;> rfl

/-- 'c := make([]T, n); copy(c, a)': a new row that holds what a leads to. -/
theorem copy_made (w : World) (t e ty : TypeId) (z : Value) (n cap : Nat) (x : Addr) (f : Nat → Value) (ht : Try.prog.underlying t = some (.slice e)) (hs : (Try.prog.info? e).map (·.size) = some 1)
    (hc : ∀ i, i < n → w.cell? (x.add i) = some (f i)) (h1 : ∀ i, (f i).oneCell' = true) :
    ∃ w1, Sem.run Try.prog (Builtin.copy_ #[t, t] ty #[.slice (some ⟨w.heap.size, 0, none⟩) n n, .slice (some x) n cap]) (w.alloc (.cells (madeCells #[z] n) e)) = .ok (.int .i64 n) w1 ∧
      w1.rowIs w.heap.size e n f ∧ Below w.heap.size w w1 := by
  have hh : (w.alloc (.cells (madeCells #[z] n) e)).heap[w.heap.size]? = some (.cells (madeCells #[z] n) e (0, 0)) := heap_alloc_new w _
  have hr := run_copy_row (P := Try.prog) (w.alloc (.cells (madeCells #[z] n) e)) t t ty e w.heap.size 0 n n x n cap (madeCells #[z] n) e ((List.range n).map f) ht hs hh (by simp)
    (by
      intro j v hj
      have hjn : j < n := by simpa using (List.getElem?_eq_some_iff.1 hj).1
      simp [hjn] at hj
      have hlt := cell_lt (hc j hjn)
      rw [World.cell?_alloc_old _ _ _ (by omega), hc j hjn, hj])
    (by simp [size_madeCells]) (by intro v hv; simp at hv; obtain ⟨j, _, rfl⟩ := hv; exact h1 j)
  have hg : goInt (((List.range n).map f).length : Nat) = .int .i64 n := by simp [goInt]
  rw [hg] at hr
  refine ⟨_, hr, ?_, ?_⟩
  · refine ⟨_, setRow_heap _ _ _ _ _ _ hh, by simp [size_madeCells], fun i hi => ?_⟩
    simp [size_madeCells, hi]
  · exact below_setRow ((Below.refl _ _).alloc (Nat.le_refl _) _) (Nat.le_refl _) _

/-- The marks behind k listed numbers. -/
def bits (ds : List Int) (j : Nat) : Value := .bool (inB ds j)
/-- The first loop's relation: the marks, and their count. -/
def Marks (w2 wr : World) (ds : List Int) (N k : Nat) : Prop := wr.rowIs w2.heap.size 4 N (bits (ds.take k)) ∧ Below w2.heap.size w2 wr

theorem marks_start (w2 : World) (ds : List Int) (N : Nat) : Marks w2 (w2.alloc (.cells (madeCells #[.bool false] N) 4)) ds N 0 :=
  ⟨(World.rowIs_made w2 (.bool false) N 4).congr (fun i _ => by simp [bits, inB]), (Below.refl _ _).alloc (Nat.le_refl _) _⟩

theorem marks_same {w2 wr : World} {ds : List Int} {N k : Nat} {d : Int} (h : Marks w2 wr ds N k) (hk : k < ds.length) (hd : d = el ds k) (hs : ∀ j : Nat, j < N → (j : Int) = d → inB (ds.take k) j = true) : Marks w2 wr ds N (k + 1) ∧ cnt (ds.take (k + 1)) N = cnt (ds.take k) N := by
  have e : ds.take (k + 1) = ds.take k ++ [d] := by rw [hd]; exact take_snoc ds k hk
  refine ⟨⟨h.1.congr (fun j hj => ?_), h.2⟩, by rw [e, cnt_same _ _ _ hs]⟩
  unfold bits
  rw [e, inB_snoc]
  by_cases c : (j : Int) = d
  · simp [c, hs j hj c]
  · simp [c]

theorem marks_more {w2 wr : World} {ds : List Int} {N k D : Nat} (h : Marks w2 wr ds N k) (hk : k < ds.length) (hd : (D : Int) = el ds k) (hD : D < N) (hs : inB (ds.take k) D = false) :
    Marks w2 (wr.setCell ⟨w2.heap.size, D, none⟩ (.bool true)) ds N (k + 1) ∧ cnt (ds.take (k + 1)) N = cnt (ds.take k) N + 1 := by
  have e : ds.take (k + 1) = ds.take k ++ [(D : Int)] := by rw [hd]; exact take_snoc ds k hk
  refine ⟨⟨(h.1.set D (.bool true)).congr (fun j hj => ?_), h.2.setCell (Nat.le_refl _) _⟩, by rw [e, cnt_more _ _ _ hD hs]⟩
  unfold bits
  rw [e, inB_snoc]
  by_cases c : j = D
  · simp [c]
  · simp [c, show ¬ (j : Int) = (D : Int) by omega]

/-- Cells of the copy, of the marks, of what was handed back: as they stand in the round. -/
theorem copy_cell {w w1 w2 wr : World} {ds : List Int} {N len k i : Nat} (hr : w1.rowIs w.heap.size 3 len (ints ds)) (hb : Below w1.heap.size w1 w2) (h : Marks w2 wr ds N k) (hi : i < len) :
    wr.cell? ⟨w.heap.size, i, none⟩ = some (.int .i64 (el ds i)) := by
  have l1 := hr.lt
  have l2 := hb.size
  rw [h.2.cell (by show w.heap.size < w2.heap.size; omega), hb.cell (by exact l1)]
  exact hr.cell hi

/-- What was handed back, in the last loop's world: its cells, and of each number that it lies in range, is not marked and is greater than the one ahead of it. -/
theorem got_cells {w1 w2 wr : World} {ds : List Int} {N k : Nat} {a : Option Addr} (hR : Rest w1 w2 ds N a) (h : Marks w2 wr ds N k) (hk : ds.take k = ds) (hpos : 0 < upLen ds N) :
    ∃ g o, a = some ⟨g, o, none⟩ ∧ ∀ i, i < upLen ds N → ∃ j : Nat, wr.cell? ⟨g, o + i, none⟩ = some (.int .i64 j) ∧ j < N ∧ wr.cell? ⟨w2.heap.size, j, none⟩ = some (.bool false) ∧ (j : Int) = el (ups ds N) i := by
  rcases hR.2.2.1 with h0 | ⟨g, o, rfl, hg, hc⟩
  · omega
  · refine ⟨g, o, rfl, fun i hi => ?_⟩
    obtain ⟨j, e, hj, hin⟩ := ups_at ds N i hi
    refine ⟨j, ?_, hj, ?_, e.symm⟩
    · rw [h.2.cell (by exact hg), hc i hi]
      unfold ints el
      rw [e]
    · have := h.1.cell hj
      rw [hk] at this
      unfold bits at this
      rw [hin] at this
      exact this

theorem up_count (ds : List Int) (N k : Nat) (hk : ds.take k = ds) : upLen ds N + cnt (ds.take k) N ≤ N ∧ N ≤ upLen ds N + cnt (ds.take k) N := by
  have := ups_cnt ds N
  rw [hk]
  unfold upLen
  omega

set_option maxRecDepth 100000 in
set_option maxHeartbeats 1000000 in
/-- Members are asked for, some are listed. -/
theorem law_some (N : Nat) (x : Addr) (len cap : Nat) (ds : List Int) (w : World) (hn0 : 0 < N) (hn : N ≤ 65536) (hlen : len ≤ 4096) (hl : ds.length = len)
    (hc : ∀ i, i < len → w.cell? (x.add i) = some (ints ds i)) :
    Calls Try.prog 3 #[.int .i64 N, .slice (some x) len cap] w fun e w' => e = .returned (.bool true) ∧ Below w.heap.size w w' := by
  have HL : Hid (ds.length = len) := hl
  have hby : len ≤ 1048576 := by omega
  have hne := fun w => run_neq_slice_nil_any (P := Try.prog) w 22 3 (some x) len cap 0 0 Try.underlying22
  have hmk := run_make_row' (P := Try.prog) 22 3 (.int .i64 0) 8 Try.underlying22 Try.info3 rfl .i64 .i64 len (by omega) (by omega)
  have hmk2 := run_make_row' (P := Try.prog) 25 4 (.bool false) 1 Try.underlying25 Try.info4 rfl .i64 .i64 N (by omega) (by omega)
  obtain ⟨w1, hcp, hr1, hb1⟩ := copy_made w 22 3 3 (.int .i64 0) len cap x (ints ds) Try.underlying22 Try.size3 hc (fun _ => rfl)
  have hs1 : Seen w1 (some ⟨w.heap.size, 0, none⟩) len (ints ds) := .inr ⟨_, _, rfl, hr1.lt, fun i hi => by rw [Nat.zero_add]; exact hr1.cell hi⟩
  clear hl hc
  go_enter Try.func3, Try.ntmps3
  go_wp2_with (first | (go_at_call 6; refine (bytes_yes _ _ _ _ _ hby).mono ?_; rintro e w' ⟨rfl, rfl⟩) | (go_at_call 7; refine (zzup_any _ len _ N N ds _ hn (by omega) (by omega) hlen HL.out hs1).mono ?_; rintro e w2 ⟨a2, c2, rfl, R2⟩))
  clear hcp hmk hmk2 hne hs1
  go_loopw [9, 10] (fun c i wr => ∃ k : Nat, k ≤ len ∧ i = .int .i64 k ∧ c = .int .i64 (cnt (ds.take k) N) ∧ Marks w2 wr ds N k) (fun _ i _ => len - (intOf i).toNat)
  case atStart => exact ⟨0, Nat.zero_le _, rfl, by simp [cnt_nil], marks_start _ _ _⟩
  case round =>
    obtain ⟨k, hk, rfl, rfl, hM⟩ := hrel
    have hcl := cnt_le (ds.take k) N
    by_cases hlt : k < len
    · have hck := copy_cell hr1 R2.2.2.2 hM hlt
      obtain ⟨d, hd⟩ : ∃ d, d = el ds k := ⟨_, rfl⟩
      rw [← hd] at hck
      have HD : Hid (d = el ds k) := hd
      clear hd
      by_cases h0 : 0 ≤ d
      · by_cases h1 : d < N
        · obtain ⟨D, rfl⟩ := Int.eq_ofNat_of_zero_le h0
          have hDN : D < N := by omega
          have hmc := hM.1.cell hDN
          have hmf := hM.1.frozen D
          unfold bits at hmc
          cases hib : inB (ds.take k) D with
          | true =>
            have R := marks_same hM (by have := HL.out; omega) HD.out (fun j hj e => by have : j = D := by omega
                                                                                        rw [this]; exact hib)
            rw [hib] at hmc
            clear hM hib
            go_wp2
            go_roundw
            case rel => exact ⟨k + 1, by omega, by go_num, by rw [R.2], R.1⟩
            case measure => simp [intOf]; omega
          | false =>
            have R := marks_more hM (by have := HL.out; omega) HD.out hDN hib
            rw [hib] at hmc
            clear hM hib
            go_wp2
            go_roundw
            case rel => exact ⟨k + 1, by omega, by go_num, by rw [R.2]; go_num, R.1⟩
            case measure => simp [intOf]; omega
        · have R := marks_same hM (by have := HL.out; omega) HD.out (fun j hj e => by omega)
          clear hM
          go_wp2
          go_roundw
          case rel => exact ⟨k + 1, by omega, by go_num, by rw [R.2], R.1⟩
          case measure => simp [intOf]; omega
      · have R := marks_same hM (by have := HL.out; omega) HD.out (fun j hj e => by omega)
        clear hM
        go_wp2
        go_roundw
        case rel => exact ⟨k + 1, by omega, by go_num, by rw [R.2], R.1⟩
        case measure => simp [intOf]; omega
    · have ht : ds.take k = ds := List.take_of_length_le (by have := HL.out; omega)
      obtain ⟨hu1, hu2⟩ := up_count ds N k ht
      have hbel : Below w.heap.size w wr := (hb1.trans (R2.2.2.2.mono (Nat.le_of_lt hr1.lt))).trans (hM.2.mono (Nat.le_trans hb1.size R2.2.2.2.size))
      by_cases hz : upLen ds N = 0
      · obtain rfl := R2.1 hz
        have hen := fun w => Lib.run_eql_slice_nil (P := Try.prog) w 22 3 none (upLen ds N) c2 0 0 Try.underlying22
        have hz' : upLen ds N ≤ 0 := by omega
        clear hz ht hM hr1 hb1 R2
        have hwz : ((N : Int) - (cnt (ds.take k) N : Int) == 0) = true := beq_iff_eq.2 (by omega)
        go_wp2
        go_loop [13] (fun i => i = .int .i64 0) (fun _ => 0)
        case atStart => rfl
        case round =>
          obtain rfl := hrel
          go_wp2
          go_ret
          exact ⟨rfl, hbel⟩
      · have hz' : 0 < upLen ds N := by omega
        obtain ⟨g, o, rfl, hcells⟩ := got_cells R2 hM ht hz'
        have hen := fun w => Lib.run_eql_slice_nil (P := Try.prog) w 22 3 (some ⟨g, o, none⟩) (upLen ds N) c2 0 0 Try.underlying22
        have HC : Hid (∀ i, i < upLen ds N → ∃ j : Nat, wr.cell? ⟨g, o + i, none⟩ = some (.int .i64 j) ∧ j < N ∧ wr.cell? ⟨w2.heap.size, j, none⟩ = some (.bool false) ∧ (j : Int) = el (ups ds N) i) := hcells
        have hle := upLen_le ds N
        clear hz ht hM hr1 hb1 R2 hcells
        go_wp2
        go_loop [13] (fun i => ∃ m : Nat, m ≤ upLen ds N ∧ i = .int .i64 m) (fun i => upLen ds N - (intOf i).toNat)
        case atStart => exact ⟨0, Nat.zero_le _, rfl⟩
        case round =>
          obtain ⟨m, hm, rfl⟩ := hrel
          by_cases hmlt : m < upLen ds N
          · obtain ⟨j, hj1, hj2, hj3, hj4⟩ := HC.out m hmlt
            have H4 : Hid ((j : Int) = el (ups ds N) m) := hj4
            clear hj4
            match m, hm, hmlt, hj1, H4 with
            | 0, hm, hmlt, hj1, H4 =>
              simp only [Nat.add_zero] at hj1
              go_wp2
              go_round
              case rel => exact ⟨1, by omega, rfl⟩
              case measure => simp [intOf]; omega
            | p + 1, hm, hmlt, hj1, H4 =>
              obtain ⟨q, hq1, hq2, hq3, hq4⟩ := HC.out p (by omega)
              have hqj : (q : Int) < (j : Int) := by rw [hq4, H4.out]; exact ups_step ds N p hmlt
              clear hq3 hq4
              go_wp2
              go_round
              case rel => exact ⟨p + 2, by omega, by go_num⟩
              case measure => simp [intOf]; omega
          · go_wp2
            go_ret
            exact ⟨rfl, hbel⟩
set_option maxRecDepth 100000 in
set_option maxHeartbeats 1000000 in
/-- Members are asked for, none is listed. -/
theorem law_nil (N : Nat) (w : World) (hn0 : 0 < N) (hn : N ≤ 65536) :
    Calls Try.prog 3 #[.int .i64 N, .slice none 0 0] w fun e w' => e = .returned (.bool true) ∧ Below w.heap.size w w' := by
  have hby : (0 : Nat) ≤ 1048576 := by omega
  have hne := fun w => run_neq_slice_nil_any (P := Try.prog) w 22 3 none 0 0 0 0 Try.underlying22
  have hmk2 := run_make_row' (P := Try.prog) 25 4 (.bool false) 1 Try.underlying25 Try.info4 rfl .i64 .i64 N (by omega) (by omega)
  have hs1 : Seen w none 0 (ints []) := .inl rfl
  go_enter Try.func3, Try.ntmps3
  go_wp2_with (first | (go_at_call 6; refine (bytes_yes _ _ _ _ _ hby).mono ?_; rintro e w' ⟨rfl, rfl⟩) | (go_at_call 7; refine (zzup_any _ 0 _ N N [] _ hn (by omega) (by omega) (by omega) rfl hs1).mono ?_; rintro e w2 ⟨a2, c2, rfl, R2⟩))
  clear hmk2 hne hs1
  go_loopw [9, 10] (fun c i wr => i = .int .i64 0 ∧ c = .int .i64 0 ∧ Marks w2 wr [] N 0) (fun _ _ _ => 0)
  case atStart => exact ⟨rfl, rfl, marks_start _ _ _⟩
  case round =>
    obtain ⟨rfl, rfl, hM⟩ := hrel
    have hu1 := up_count [] N 0 rfl
    simp only [List.take_nil, cnt_nil, Nat.add_zero] at hu1
    obtain ⟨hu1, hu2⟩ := hu1
    have hbel : Below w.heap.size w wr := R2.2.2.2.trans (hM.2.mono R2.2.2.2.size)
    have hz' : 0 < upLen [] N := by omega
    have hle := upLen_le [] N
    obtain ⟨g, o, rfl, hcells⟩ := got_cells R2 hM rfl hz'
    have hen := fun w => Lib.run_eql_slice_nil (P := Try.prog) w 22 3 (some ⟨g, o, none⟩) (upLen [] N) c2 0 0 Try.underlying22
    have HC : Hid (∀ i, i < upLen [] N → ∃ j : Nat, wr.cell? ⟨g, o + i, none⟩ = some (.int .i64 j) ∧ j < N ∧ wr.cell? ⟨w2.heap.size, j, none⟩ = some (.bool false) ∧ (j : Int) = el (ups [] N) i) := hcells
    clear hM R2 hcells
    go_wp2
    go_loop [13] (fun i => ∃ m : Nat, m ≤ upLen [] N ∧ i = .int .i64 m) (fun i => upLen [] N - (intOf i).toNat)
    case atStart => exact ⟨0, Nat.zero_le _, rfl⟩
    case round =>
      obtain ⟨m, hm, rfl⟩ := hrel
      by_cases hmlt : m < upLen [] N
      · obtain ⟨j, hj1, hj2, hj3, hj4⟩ := HC.out m hmlt
        have H4 : Hid ((j : Int) = el (ups [] N) m) := hj4
        clear hj4
        match m, hm, hmlt, hj1, H4 with
        | 0, hm, hmlt, hj1, H4 =>
          simp only [Nat.add_zero] at hj1
          go_wp2
          go_round
          case rel => exact ⟨1, by omega, rfl⟩
          case measure => simp [intOf]; omega
        | p + 1, hm, hmlt, hj1, H4 =>
          obtain ⟨q, hq1, hq2, hq3, hq4⟩ := HC.out p (by omega)
          have hqj : (q : Int) < (j : Int) := by rw [hq4, H4.out]; exact ups_step [] N p hmlt
          clear hq3 hq4
          go_wp2
          go_round
          case rel => exact ⟨p + 2, by omega, by go_num⟩
          case measure => simp [intOf]; omega
      · go_wp2
        go_ret
        exact ⟨rfl, hbel⟩

theorem run_make_none (w : World) : (Instr.makeSlice 25 (.int .i64 0) (.int .i64 0)).run Try.prog w = .ok (.slice (some ⟨w.heap.size, 0, none⟩) 0 0) (w.alloc (.cells (madeCells #[.bool false] 0) 4)) :=
  run_make_row' (P := Try.prog) 25 4 (.bool false) 1 Try.underlying25 Try.info4 rfl .i64 .i64 0 (by omega) (by omega) w

set_option maxRecDepth 100000 in
set_option maxHeartbeats 1000000 in
/-- No member is asked for, some are listed. -/
theorem law_zero (n : Int) (x : Addr) (len cap : Nat) (ds : List Int) (w : World) (hn0 : n ≤ 0) (hlen : len ≤ 4096) (hl : ds.length = len)
    (hc : ∀ i, i < len → w.cell? (x.add i) = some (ints ds i)) :
    Calls Try.prog 3 #[.int .i64 n, .slice (some x) len cap] w fun e w' => e = .returned (.bool true) ∧ Below w.heap.size w w' := by
  have HL : Hid (ds.length = len) := hl
  have hby : len ≤ 1048576 := by omega
  have hne := fun w => run_neq_slice_nil_any (P := Try.prog) w 22 3 (some x) len cap 0 0 Try.underlying22
  have hmk := run_make_row' (P := Try.prog) 22 3 (.int .i64 0) 8 Try.underlying22 Try.info3 rfl .i64 .i64 len (by omega) (by omega)
  have hmk2 := run_make_none
  obtain ⟨w1, hcp, hr1, hb1⟩ := copy_made w 22 3 3 (.int .i64 0) len cap x (ints ds) Try.underlying22 Try.size3 hc (fun _ => rfl)
  have hs1 : Seen w1 (some ⟨w.heap.size, 0, none⟩) len (ints ds) := .inr ⟨_, _, rfl, hr1.lt, fun i hi => by rw [Nat.zero_add]; exact hr1.cell hi⟩
  clear hl hc
  go_enter Try.func3, Try.ntmps3
  go_wp2_with (first | (go_at_call 6; refine (bytes_yes _ _ _ _ _ hby).mono ?_; rintro e w' ⟨rfl, rfl⟩) | (go_at_call 7; refine (zzup_any _ len _ 0 n ds _ (by omega) (by omega) (.inr rfl) hlen HL.out hs1).mono ?_; rintro e w2 ⟨a2, c2, rfl, R2⟩))
  clear hcp hmk hmk2 hne hs1
  go_loopw [9, 10] (fun c i wr => ∃ k : Nat, k ≤ len ∧ i = .int .i64 k ∧ c = .int .i64 0 ∧ Marks w2 wr ds 0 k) (fun _ i _ => len - (intOf i).toNat)
  case atStart => exact ⟨0, Nat.zero_le _, rfl, rfl, marks_start _ _ _⟩
  case round =>
    obtain ⟨k, hk, rfl, rfl, hM⟩ := hrel
    by_cases hlt : k < len
    · have hck := copy_cell hr1 R2.2.2.2 hM hlt
      obtain ⟨d, hd⟩ : ∃ d, d = el ds k := ⟨_, rfl⟩
      rw [← hd] at hck
      have HD : Hid (d = el ds k) := hd
      clear hd
      have R := marks_same hM (by have := HL.out; omega) HD.out (fun j hj e => by omega)
      clear hM
      by_cases h0 : 0 ≤ d
      · go_wp2
        go_roundw
        case rel => exact ⟨k + 1, by omega, by go_num, rfl, R.1⟩
        case measure => simp [intOf]; omega
      · go_wp2
        go_roundw
        case rel => exact ⟨k + 1, by omega, by go_num, rfl, R.1⟩
        case measure => simp [intOf]; omega
    · have hbel : Below w.heap.size w wr := (hb1.trans (R2.2.2.2.mono (Nat.le_of_lt hr1.lt))).trans (hM.2.mono (Nat.le_trans hb1.size R2.2.2.2.size))
      obtain rfl := R2.1 rfl
      have hen := fun w => Lib.run_eql_slice_nil (P := Try.prog) w 22 3 none (upLen ds 0) c2 0 0 Try.underlying22
      have hz' := upLen_le ds 0
      clear hM hr1 hb1 R2
      go_wp2
      go_loop [13] (fun i => i = .int .i64 0) (fun _ => 0)
      case atStart => rfl
      case round =>
        obtain rfl := hrel
        go_wp2
        go_ret
        exact ⟨rfl, hbel⟩

set_option maxRecDepth 100000 in
set_option maxHeartbeats 1000000 in
/-- No member is asked for, none is listed. -/
theorem law_zero_nil (n : Int) (w : World) (hn0 : n ≤ 0) :
    Calls Try.prog 3 #[.int .i64 n, .slice none 0 0] w fun e w' => e = .returned (.bool true) ∧ Below w.heap.size w w' := by
  have hby : (0 : Nat) ≤ 1048576 := by omega
  have hne := fun w => run_neq_slice_nil_any (P := Try.prog) w 22 3 none 0 0 0 0 Try.underlying22
  have hmk2 := run_make_none
  have hs1 : Seen w none 0 (ints []) := .inl rfl
  go_enter Try.func3, Try.ntmps3
  go_wp2_with (first | (go_at_call 6; refine (bytes_yes _ _ _ _ _ hby).mono ?_; rintro e w' ⟨rfl, rfl⟩) | (go_at_call 7; refine (zzup_any _ 0 _ 0 n [] _ (by omega) (by omega) (.inr rfl) (by omega) rfl hs1).mono ?_; rintro e w2 ⟨a2, c2, rfl, R2⟩))
  clear hmk2 hne hs1
  go_loopw [9, 10] (fun c i wr => i = .int .i64 0 ∧ c = .int .i64 0 ∧ Marks w2 wr [] 0 0) (fun _ _ _ => 0)
  case atStart => exact ⟨rfl, rfl, marks_start _ _ _⟩
  case round =>
    obtain ⟨rfl, rfl, hM⟩ := hrel
    have hbel : Below w.heap.size w wr := R2.2.2.2.trans (hM.2.mono R2.2.2.2.size)
    obtain rfl := R2.1 rfl
    have hen := fun w => Lib.run_eql_slice_nil (P := Try.prog) w 22 3 none (upLen [] 0) c2 0 0 Try.underlying22
    have hz' := upLen_le [] 0
    clear hM R2
    go_wp2
    go_loop [13] (fun i => i = .int .i64 0) (fun _ => 0)
    case atStart => rfl
    case round =>
      obtain rfl := hrel
      go_wp2
      go_ret
      exact ⟨rfl, hbel⟩
end Go.Proofs.Qxb6605552a.Up
