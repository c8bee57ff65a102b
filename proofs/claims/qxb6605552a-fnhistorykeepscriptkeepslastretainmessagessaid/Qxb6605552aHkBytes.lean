/-
  '[]byte' AND '[][]byte': 'zzB1CloneBytes', 'zzB1CloneByteSlices', 'zzB1BytesSame'.
-/
import Derived.Test.Qxb6605552aHkFields
import Derived.WalkSpells
import Derived.Laws.CopyOwn
namespace Go.Proofs.Qxb6605552a.Hk
open Go.RowKit

theorem cell_lt {w : World} {a : Addr} {v : Value} (h : w.cell? a = some v) : a.block < w.heap.size := by
  unfold World.cell? at h
  split at h
  · rename_i hb; exact (Array.getElem?_eq_some_iff.1 hb).1
  · cases h

/-- A '[]byte' that came in: nil, or it leads to its bytes. -/
def RawBytes (w : World) (v : Value) (l : Nat) : Prop :=
  (v = .slice none 0 0 ∧ l = 0) ∨ ∃ x c, v = .slice (some x) l c ∧ ∃ z : Nat → Int, ∀ j, j < l → w.cell? (x.add j) = some (.int .u8 (z j))

/-- A '[]byte' of the call's own, from block B on. -/
def Bytes (B : Nat) (w : World) (v : Value) : Prop :=
  v = .slice none 0 0 ∨ ∃ b l, v = .slice (some ⟨b, 0, none⟩) l l ∧ B ≤ b ∧ l ≤ 1048576 ∧ ∃ z : Nat → Int, w.rowIs b 5 l (fun j => .int .u8 (z j))

theorem RawBytes.below {w w' : World} {v : Value} {l : Nat} (h : RawBytes w v l) (hb : Below w.heap.size w w') : RawBytes w' v l := by
  rcases h with h | ⟨x, c, rfl, z, hz⟩
  · exact .inl h
  · exact .inr ⟨x, c, rfl, z, fun j hj => (hb.cell (cell_lt (hz j hj))).trans (hz j hj)⟩

theorem Bytes.mono {B B' : Nat} {w : World} {v : Value} (h : Bytes B w v) (hB : B' ≤ B) : Bytes B' w v := by
  rcases h with h | ⟨b, l, h1, h2, h3⟩
  · exact .inl h
  · exact .inr ⟨b, l, h1, by omega, h3⟩

theorem Bytes.below {B : Nat} {w w' : World} {v : Value} (h : Bytes B w v) (hb : Below w.heap.size w w') : Bytes B w' v := by
  rcases h with h | ⟨b, l, h1, h2, h3, z, hz⟩
  · exact .inl h
  · exact .inr ⟨b, l, h1, h2, h3, z, hz.of_block (hb.block b hz.lt)⟩

theorem Bytes.set {B : Nat} {w : World} {v : Value} (h : Bytes B w v) {a : Addr} (ha : a.block < B) (u : Value) : Bytes B (w.setCell a u) v := by
  rcases h with h | ⟨b, l, h1, h2, h3, z, hz⟩
  · exact .inl h
  · exact .inr ⟨b, l, h1, h2, h3, z, hz.setOther (by omega) u⟩

theorem Bytes.shape {B : Nat} {w : World} {v : Value} (h : Bytes B w v) : ∃ a l c, v = .slice a l c := by
  rcases h with h | ⟨b, l, h1, _⟩
  · exact ⟨_, _, _, h⟩
  · exact ⟨_, _, _, h1⟩

/-- 'c := make([]T, n); copy(c, a)': a new row that holds what a leads to. -/
theorem copy_made (w : World) (t e ty : TypeId) (z : Value) (n cap : Nat) (x : Addr) (f : Nat → Value) (ht : Try.prog.underlying t = some (.slice e)) (hs : (Try.prog.info? e).map (·.size) = some 1)
    (hc : ∀ i, i < n → w.cell? (x.add i) = some (f i)) (h1 : ∀ i, (f i).oneCell' = true) :
    ∃ w1, Sem.run Try.prog (Builtin.copy_ #[t, t] ty #[.slice (some ⟨w.heap.size, 0, none⟩) n n, .slice (some x) n cap]) (w.alloc (.cells (madeCells #[z] n) e)) = .ok (.int .i64 n) w1 ∧
      w1.rowIs w.heap.size e n f ∧ Below w.heap.size w w1 := by
  have hh : (w.alloc (.cells (madeCells #[z] n) e)).heap[w.heap.size]? = some (.cells (madeCells #[z] n) e (0, 0)) := heap_alloc_new w _
  have hr := run_copy_row (P := Try.prog) (w.alloc (.cells (madeCells #[z] n) e)) t t ty e w.heap.size 0 n n x n cap (madeCells #[z] n) e ((List.range n).map f) ht hs hh (by simp)
    (by
      intro j v hj
      have hjn : j < n := by simpa using (List.getElem?_eq_some_iff.1 hj).1
      simp [hjn] at hj
      have hlt := cell_lt (hc j hjn)
      rw [World.cell?_alloc_old _ _ _ (by omega), hc j hjn, hj])
    (by simp [size_madeCells]) (by intro v hv; simp at hv; obtain ⟨j, _, rfl⟩ := hv; exact h1 j)
  have hg : goInt (((List.range n).map f).length : Nat) = .int .i64 n := by simp [goInt]
  rw [hg] at hr
  refine ⟨_, hr, ?_, ?_⟩
  · refine ⟨_, setRow_heap _ _ _ _ _ _ hh, by simp [size_madeCells], fun i hi => ?_⟩
    simp [size_madeCells, hi]
  · exact below_setRow ((Below.refl _ _).alloc (Nat.le_refl _) _) (Nat.le_refl _) _

theorem Try.info5 : (Try.prog.info? 5).map (fun i => (i.zero, i.size, i.bytes)) = some (some (.int .u8 0), 1, 1) := by kernel_rfl
theorem Try.size5 : (Try.prog.info? 5).map (·.size) = some 1 := by kernel_rfl

/-- How 'zzB1CloneBytes' ends. -/
def Cloned (w : World) (e : Ending) (w' : World) : Prop := ∃ v, e = .returned v ∧ Bytes w.heap.size w' v ∧ Below w.heap.size w w'

set_option maxHeartbeats 400000 in
theorem clone_any (v : Value) (l : Nat) (w : World) (hl : l ≤ 1048576) (hr : RawBytes w v l) : Calls Try.prog 11 #[v] w fun e w' => Cloned w e w' := by
  rcases hr with ⟨rfl, rfl⟩ | ⟨x, c, rfl, z, hz⟩
  · have he := fun w => Lib.run_eql_slice_nil (P := Try.prog) w 29 5 none 0 0 0 0 Try.underlying29
    go_enter Try.func11, Try.ntmps11
    go_wp2
    go_ret
    exact ⟨_, rfl, .inl rfl, Below.refl _ _⟩
  · have he := fun w => Lib.run_eql_slice_nil (P := Try.prog) w 29 5 (some x) l c 0 0 Try.underlying29
    have hmk := run_make_row' (P := Try.prog) 29 5 (.int .u8 0) 1 Try.underlying29 Try.info5 rfl .i64 .i64 l (by omega) (by omega)
    obtain ⟨w1, hcp, hr1, hb1⟩ := copy_made w 29 5 3 (.int .u8 0) l c x (fun j => .int .u8 (z j)) Try.underlying29 Try.size5 hz (fun _ => rfl)
    clear hz
    go_enter Try.func11, Try.ntmps11
    go_wp2
    go_ret
    exact ⟨_, rfl, .inr ⟨_, _, rfl, Nat.le_refl _, hl, z, hr1⟩, hb1⟩

/-- A '[][]byte' that came in, n of them, the i-th of 'ls i' bytes. -/
def RawRows (w : World) (a : Option Addr) (n : Nat) (ls : Nat → Nat) : Prop :=
  (a = none ∧ n = 0) ∨ ∃ x, a = some x ∧ ∀ i, i < n → ∃ V, w.cell? (x.add i) = some V ∧ RawBytes w V (ls i)

theorem RawRows.at {w : World} {a : Option Addr} {n : Nat} {ls : Nat → Nat} (h : RawRows w a n ls) {i : Nat} (hi : i < n) :
    ∃ b off, a = some ⟨b, off, none⟩ ∧ b < w.heap.size ∧ ∃ V, w.cell? ⟨b, off + i, none⟩ = some V ∧ RawBytes w V (ls i) := by
  rcases h with ⟨_, h⟩ | ⟨⟨b, off, spot⟩, rfl, h⟩
  · omega
  · obtain ⟨V, hc, hV⟩ := h i hi
    obtain ⟨V0, hc0, _⟩ := h 0 (by omega)
    have hs : spot = none := by simpa [Addr.add] using World.cell?_spot hc0
    subst hs
    rw [Addr.add_lit] at hc
    exact ⟨b, off, rfl, cell_lt hc, V, hc, hV⟩

theorem RawRows.below {w w' : World} {a : Option Addr} {n : Nat} {ls : Nat → Nat} (h : RawRows w a n ls) (hb : Below w.heap.size w w') : RawRows w' a n ls := by
  rcases h with h | ⟨x, rfl, h⟩
  · exact .inl h
  · refine .inr ⟨x, rfl, fun i hi => ?_⟩
    obtain ⟨V, hc, hV⟩ := h i hi
    exact ⟨V, (hb.cell (cell_lt hc)).trans hc, hV.below hb⟩

theorem RawBytes.shape {w : World} {v : Value} {l : Nat} (h : RawBytes w v l) : ∃ a c, v = .slice a l c := by
  rcases h with ⟨h, rfl⟩ | ⟨x, c, h, _⟩
  · exact ⟨_, _, h⟩
  · exact ⟨_, _, h⟩

/-- The clones, so far. -/
def Clones (w wr : World) (n k : Nat) (Pf : Nat → Value) : Prop := wr.rowIs w.heap.size 29 n Pf ∧ (∀ i, i < k → Bytes (w.heap.size + 1) wr (Pf i)) ∧ Below w.heap.size w wr

theorem clones_start (w : World) (n : Nat) : Clones w (w.alloc (.cells (madeCells #[.slice none 0 0] n) 29)) n 0 (fun _ => .slice none 0 0) :=
  ⟨World.rowIs_made w _ n 29, fun i hi => by omega, (Below.refl _ _).alloc (Nat.le_refl _) _⟩

theorem clones_step {w wr w1 : World} {n k : Nat} {v : Value} {Pf : Nat → Value} (h : Clones w wr n k Pf) (hB : Bytes wr.heap.size w1 v) (hb : Below wr.heap.size wr w1) :
    Clones w (w1.setCell ⟨w.heap.size, k, none⟩ v) n (k + 1) (fun t => if t = k then v else Pf t) := by
  obtain ⟨h1, h2, h3⟩ := h
  have hlt := h1.lt
  refine ⟨(h1.of_block (hb.block _ hlt)).set k v, fun i hi => ?_, (h3.trans (hb.mono (Nat.le_of_lt hlt))).setCell (Nat.le_refl _) _⟩
  by_cases e : i = k
  · simp only [e, if_true]
    exact (hB.mono (by omega)).set (by show w.heap.size < w.heap.size + 1; omega) _
  · simp only [e, if_false]
    exact ((h2 i (by omega)).below hb).set (by show w.heap.size < w.heap.size + 1; omega) _

/-- How 'zzB1CloneByteSlices' ends: nil stays nil; else a new row of clones. -/
def ClonedAll (w : World) (a : Option Addr) (n : Nat) (e : Ending) (w' : World) : Prop :=
  (a = none ∧ e = .returned (.slice none 0 0) ∧ w' = w) ∨ (a ≠ none ∧ e = .returned (.slice (some ⟨w.heap.size, 0, none⟩) n n) ∧ ∃ Pf, Clones w w' n n Pf)

set_option maxRecDepth 100000 in
set_option maxHeartbeats 400000 in
theorem cloneAll_any (a : Option Addr) (n cap : Nat) (ls : Nat → Nat) (w : World) (hn : n ≤ 1048576) (hls : ∀ i, i < n → ls i ≤ 1048576) (hr : RawRows w a n ls) :
    Calls Try.prog 10 #[.slice a n cap] w fun e w' => ClonedAll w a n e w' := by
  have he := fun w => Lib.run_eql_slice_nil (P := Try.prog) w 28 29 a n cap 0 0 Try.underlying28
  have HLS : Hid (∀ i, i < n → ls i ≤ 1048576) := hls
  clear hls
  cases a with
  | none =>
    go_enter Try.func10, Try.ntmps10
    go_wp2
    go_ret
    exact .inl ⟨rfl, rfl, rfl⟩
  | some x =>
    have hmk := run_make_row' (P := Try.prog) 28 29 (.slice none 0 0) 24 Try.underlying28 Try.info29 rfl .i64 .i64 n (by omega) (by omega)
    go_enter Try.func10, Try.ntmps10
    go_wp2
    go_loopw [4] (fun sl wr => ∃ k : Nat, k ≤ n ∧ sl = .int .i64 k ∧ ∃ Pf, Clones w wr n k Pf) (fun sl _ => n - (intOf sl).toNat)
    case atStart => exact ⟨0, Nat.zero_le _, rfl, _, clones_start w n⟩
    case round =>
      obtain ⟨k, hk, rfl, Pf, hC⟩ := hrel
      clear hmk he
      by_cases hlt : k < n
      · obtain ⟨b, off, ex, hb, V, hc, hV⟩ := hr.at hlt
        obtain rfl := Option.some.inj ex
        have hcw : wr.cell? ⟨b, off + k, none⟩ = some V := (hC.2.2.cell (by exact hb)).trans hc
        have hVw := hV.below hC.2.2
        obtain ⟨va, vc, rfl⟩ := hV.shape
        have hcl := clone_any _ _ wr (HLS.out k hlt) hVw
        have f1 := hC.1.frozen k
        have v1 := hC.1.cell hlt
        have l1 := hC.1.lt
        have HC : Hid _ := hC
        generalize Pf k = pk at v1
        clear hr hV hVw hc hC
        go_wp2_with (go_at_call 11; refine hcl.mono ?_; rintro e w1 ⟨v, rfl, hB, hbw⟩; obtain ⟨b1, b2, b3, rfl⟩ := hB.shape; have v2 := (hbw.cell (p := ⟨w.heap.size, k, none⟩) l1).trans v1; have f2 := (hbw.frozen (p := ⟨w.heap.size, k, none⟩) l1).trans f1)
        go_roundw
        case rel => exact ⟨k + 1, by omega, by go_num, _, clones_step HC.out hB hbw⟩
        case measure => simp [intOf]; omega
      · obtain rfl : k = n := by omega
        clear hr
        go_wp2
        go_ret
        exact .inr ⟨by simp, rfl, Pf, hC⟩

set_option maxRecDepth 100000 in
set_option maxHeartbeats 400000 in
/-- 'zzB1BytesSame' of a '[]byte' and itself. -/
theorem same_any (B : Nat) (v : Value) (w : World) (hB : Bytes B w v) : Calls Try.prog 16 #[v, v] w fun e w' => e = .returned (.bool true) ∧ ∃ q, w' = w.drewN q := by
  rcases hB with rfl | ⟨b, l, rfl, _, hl, z, hz⟩
  · have he := fun w => Lib.run_eql_slice_nil (P := Try.prog) w 29 5 none 0 0 0 0 Try.underlying29
    go_enter Try.func16, Try.ntmps16
    go_wp2
    go_loop [5] (fun sl => sl = .int .i64 0) (fun _ => 0)
    case atStart => rfl
    case round =>
      obtain rfl := hrel
      go_wp2
      go_ret
      exact ⟨rfl, 0, rfl⟩
  · have he := fun w => Lib.run_eql_slice_nil (P := Try.prog) w 29 5 (some ⟨b, 0, none⟩) l l 0 0 Try.underlying29
    go_enter Try.func16, Try.ntmps16
    go_wp2
    go_loopw [5] (fun sl wr => ∃ k q : Nat, k ≤ l ∧ sl = .int .i64 k ∧ wr = w.drewN q) (fun sl _ => l - (intOf sl).toNat)
    case atStart => exact ⟨0, 0, Nat.zero_le _, rfl, rfl⟩
    case round =>
      obtain ⟨k, q, hk, rfl, rfl⟩ := hrel
      by_cases hlt : k < l
      · have hc := hz.cell hlt
        clear hz
        go_wp2
        go_quiet (fail)
        go_wp2
        go_roundw
        case rel => exact ⟨k + 1, q + nq, by omega, by go_num, rfl⟩
        case measure => simp [intOf]; omega
      · go_wp2
        go_ret
        exact ⟨rfl, q, rfl⟩

/-- What 'zzBytes_..' answers, and what a yes tells. -/
def Sized (T n2 : Nat) (ls : Nat → Nat) (w : World) (e : Ending) (w' : World) : Prop :=
  ∃ b : Bool, e = .returned (.bool b) ∧ (b = true → T ≤ 1048576 ∧ n2 ≤ 1048576 ∧ ∀ i, i < n2 → ls i ≤ 1048576) ∧ w = w'

set_option maxRecDepth 100000 in
set_option maxHeartbeats 800000 in
theorem sized_any (R : Int) (a1 : Option Addr) (T c1 : Nat) (a2 : Option Addr) (n2 c2 : Nat) (ls : Nat → Nat) (w : World) (hT : T ≤ maxLen) (hn : n2 ≤ maxLen) (hls : ∀ i, i < n2 → ls i ≤ maxLen) (hr : RawRows w a2 n2 ls) :
    Calls Try.prog 17 #[.int .i64 R, .slice a1 T c1, .slice a2 n2 c2] w fun e w' => Sized T n2 ls w e w' := by
  unfold maxLen at hT hn hls
  have HLS : Hid (∀ i, i < n2 → ls i ≤ 9223372036854775807) := hls
  clear hls
  by_cases h1 : T ≤ 1048576
  · by_cases h2 : n2 ≤ 1048576
    · by_cases h3 : T + n2 ≤ 1048576
      · go_enter Try.func17, Try.ntmps17
        go_wp2
        go_loop [7, 8] (fun zn zi => ∃ (s : Int) (k : Nat), 0 ≤ s ∧ s ≤ 1048576 ∧ k ≤ n2 ∧ zn = .int .i64 s ∧ zi = .int .i64 k ∧ ∀ i, i < k → ls i ≤ 1048576) (fun _ zi => n2 - (intOf zi).toNat)
        case atStart => exact ⟨_, 0, by omega, by omega, Nat.zero_le _, rfl, rfl, fun i hi => by omega⟩
        case round =>
          obtain ⟨s, k, hs0, hs1, hk, rfl, rfl, hall⟩ := hrel
          have HA : Hid (∀ i, i < k → ls i ≤ 1048576) := hall
          clear hall
          by_cases hlt : k < n2
          · obtain ⟨b, off, rfl, hb, V, hc, hV⟩ := hr.at hlt
            obtain ⟨va, vc, rfl⟩ := hV.shape
            have hlk := HLS.out k hlt
            have hno : ∀ b : Bool, b = false → (b = true → T ≤ 1048576 ∧ n2 ≤ 1048576 ∧ ∀ i, i < n2 → ls i ≤ 1048576) := fun b h h' => by rw [h] at h'; cases h'
            have HNO : Hid _ := hno
            clear hr hV hno
            generalize hgl : ls k = lk at *
            have HG : Hid (ls k = lk) := hgl
            clear hgl
            by_cases h4 : lk ≤ 1048576
            · by_cases h5 : s + lk ≤ 1048576
              · go_wp2
                go_round
                case rel =>
                  refine ⟨_, k + 1, by omega, h5, by omega, rfl, by go_num, fun i hi => ?_⟩
                  by_cases e : i = k
                  · rw [e, HG.out]; exact h4
                  · exact HA.out i (by omega)
                case measure => simp [intOf]; omega
              · go_wp2
                go_ret
                exact ⟨false, rfl, HNO.out _ rfl, rfl⟩
            · go_wp2
              go_ret
              exact ⟨false, rfl, HNO.out _ rfl, rfl⟩
          · obtain rfl : k = n2 := by omega
            go_wp2
            go_ret
            exact ⟨true, rfl, fun _ => ⟨h1, h2, HA.out⟩, rfl⟩
      · go_enter Try.func17, Try.ntmps17
        go_wp2
        go_ret
        exact ⟨false, rfl, fun h => (by cases h), rfl⟩
    · go_enter Try.func17, Try.ntmps17
      go_wp2
      go_ret
      exact ⟨false, rfl, fun h => (by cases h), rfl⟩
  · go_enter Try.func17, Try.ntmps17
    go_wp2
    go_ret
    exact ⟨false, rfl, fun h => (by cases h), rfl⟩
end Go.Proofs.Qxb6605552a.Hk
