/-
  THE WALKS OVER SLICES OF '[16]byte': 'zzCloneIDs', 'zzEventIDs', 'uuids', 'zzSameIDs'.
-/
import Derived.Test.Qxb6605586aIdBase
namespace Go.Proofs.Qxb6605586a.Sl
open Go.RowKit

/-- What make lays for n ids. -/
def made16 (n : Nat) : Array Value := madeCells (Array.replicate 16 (.int .u8 0)) (n * 16)

theorem made16_at {n c : Nat} (hc : c < n * 16) : (made16 n)[c]? = some (.int .u8 0) := by
  unfold made16
  simp [madeCells, hc, Array.getElem_replicate, Nat.mod_lt]

theorem made16_row (w : World) (n : Nat) (t : TypeId) : (w.alloc (.cells (made16 n) t)).rowIs w.heap.size t (n * 16) (fun _ => .int .u8 0) :=
  ⟨_, heap_alloc_new w _, by unfold made16; rw [size_madeCells], fun c hc => made16_at hc⟩

theorem run_make_ids (t e : TypeId) (n : Nat) (hn : n ≤ 65536) (ht : Try.prog.underlying t = some (.slice e)) (hi : (Try.prog.info? e).map (fun i => (i.zero, i.size, i.bytes)) = some (some (.agg (Array.replicate 16 (.int .u8 0))), 16, 16)) (w : World) :
    (Instr.makeSlice t (.int .i64 (n : Int)) (.int .i64 (n : Int))).run Try.prog w = .ok (.slice (some ⟨w.heap.size, 0, none⟩) n n) (w.alloc (.cells (made16 n) e)) := by
  obtain ⟨i, hi, hz, hs, hb⟩ := info_parts hi
  have hr := run_make (P := Try.prog) w t e i _ ht hi hz .i64 .i64 n n (by omega) (Int.le_refl _) (by rw [hb]; omega) (by omega)
  simp only [Int.toNat_natCast, hs] at hr
  exact hr

theorem Try.info46 : (Try.prog.info? 46).map (fun i => (i.zero, i.size, i.bytes)) = some (some (.agg (Array.replicate 16 (.int .u8 0))), 16, 16) := by kernel_rfl
theorem Try.info47 : (Try.prog.info? 47).map (fun i => (i.zero, i.size, i.bytes)) = some (some (.agg (Array.replicate 16 (.int .u8 0))), 16, 16) := by kernel_rfl

/-- A new row of ids, k of them written. -/
def FillId (w wr : World) (t : TypeId) (n k : Nat) (z : Nat → Int) : Prop := wr.rowIs w.heap.size t (n * 16) (fun j => if j < k * 16 then byt z j else .int .u8 0) ∧ Below w.heap.size w wr

theorem fillId_row {w wr : World} {t : TypeId} {n k : Nat} {z : Nat → Int} (h : FillId w wr t n k z) : wr.rowIs w.heap.size t (n * 16) (fun j => if j < k * 16 then byt z j else .int .u8 0) := h.1

theorem fillId_start (w : World) (t : TypeId) (n : Nat) (z : Nat → Int) : FillId w (w.alloc (.cells (made16 n) t)) t n 0 z :=
  ⟨(made16_row w n t).congr (fun j _ => by simp), (Below.refl _ _).alloc (Nat.le_refl _) _⟩

theorem fillId_step {w wr w1 : World} {t : TypeId} {n k : Nat} {z : Nat → Int} (h : FillId w wr t n k z) (hp : Put wr w1 w.heap.size (k * 16) t (n * 16) z (k * 16) (fun j => if j < k * 16 then byt z j else .int .u8 0)) : FillId w w1 t n (k + 1) z := by
  refine ⟨hp.1.congr fun j _ => ?_, h.2.trans (hp.2.2.2 _ (Nat.le_refl _))⟩
  by_cases c1 : k * 16 ≤ j ∧ j < k * 16 + 16
  · rw [if_pos c1, if_pos (by omega), show k * 16 + (j - k * 16) = j by omega]
  · rw [if_neg c1]
    show (if j < k * 16 then byt z j else .int .u8 0) = _
    by_cases c2 : j < k * 16
    · rw [if_pos c2, if_pos (by omega)]
    · rw [if_neg c2, if_neg (by omega)]

theorem fillId_done {w wr : World} {t : TypeId} {n : Nat} {z : Nat → Int} (h : FillId w wr t n n z) : wr.rowIs w.heap.size t (n * 16) (byt z) := h.1.congr fun j hj => by simp [hj]

/-- How a clone ends: as many, holding the same. -/
def ClonedId (w : World) (n : Nat) (z : Nat → Int) (e : Ending) (w' : World) : Prop := ∃ a c, e = .returned (.slice a n c) ∧ Seen w' a (n * 16) (byt z) ∧ Below w.heap.size w w'

set_option maxRecDepth 100000 in
set_option maxHeartbeats 400000 in
theorem cloneId_any (a : Option Addr) (n c : Nat) (z : Nat → Int) (w : World) (hn : n ≤ 65536) (h0 : a = none → n = 0) (hs : Seen w a (n * 16) (byt z)) :
    Calls Try.prog 9 #[.slice a n c] w fun e w' => ClonedId w n z e w' := by
  have he := fun w => Lib.run_eql_slice_nil (P := Try.prog) w 23 46 a n c 0 0 Try.underlying23
  cases a with
  | none =>
    obtain rfl := h0 rfl
    clear h0
    go_enter Try.func9, Try.ntmps9
    go_wp2
    go_ret
    exact ⟨_, _, rfl, .inl rfl, Below.refl _ _⟩
  | some x =>
    clear h0
    have hmk := run_make_ids 23 46 n hn Try.underlying23 Try.info46
    go_enter Try.func9, Try.ntmps9
    go_wp2
    go_loopw [4] (fun sl wr => ∃ k : Nat, k ≤ n ∧ sl = .int .i64 k ∧ FillId w wr 46 n k z) (fun sl _ => n - (intOf sl).toNat)
    case atStart => exact ⟨0, Nat.zero_le _, rfl, fillId_start _ _ _ _⟩
    case round =>
      obtain ⟨k, hk, rfl, hF⟩ := hrel
      clear hmk he
      by_cases hlt : k < n
      · obtain ⟨b, off, ex, hb, hc⟩ := (hs.below hF.2).all (by omega)
        obtain rfl := Option.some.inj ex
        have hc1 : ∀ j, j < 16 → wr.cell? ⟨b, off + k * 16 + j, none⟩ = some (byt z (k * 16 + j)) := fun j hj => by rw [Nat.add_assoc]; exact hc _ (by omega)
        have HC : Hid _ := hc1
        have HF : Hid _ := hF
        clear hs hc hc1 hF
        go_wp2_with (first | ((with_reducible refine wpList_load_id ?_ 46 (.tmp 20) ?_ b (off + k * 16) ?_ z (k * 16) HC.out is46 ?_); (focus exact rfl); (focus exact rfl); (focus exact rfl)) | ((with_reducible refine wpList_store_id ?_ 46 (.tmp 22) (.tmp 21) ?_ w.heap.size (k * 16) z (k * 16) ?_ ?_ 46 (n * 16) _ HF.out.1 ?_ is46 ?_); (focus exact rfl); (focus exact rfl); (focus exact rfl); (focus exact rfl); (focus omega); intro w1 hp))
        go_roundw
        case rel => exact ⟨k + 1, by omega, by go_num, fillId_step HF.out hp⟩
        case measure => simp [intOf]; omega
      · obtain rfl : k = n := by omega
        clear hs
        go_wp2
        go_ret
        exact ⟨_, _, rfl, .row (fillId_done hF), hF.2⟩

/-- A new slice of ids is handed back. -/
def MadeId (w : World) (t : TypeId) (n : Nat) (z : Nat → Int) (e : Ending) (w' : World) : Prop := e = .returned (.slice (some ⟨w.heap.size, 0, none⟩) n n) ∧ w'.rowIs w.heap.size t (n * 16) (byt z) ∧ Below w.heap.size w w'

set_option maxRecDepth 100000 in
set_option maxHeartbeats 400000 in
theorem eventIDs_any (a : Option Addr) (n c : Nat) (z : Nat → Int) (w : World) (hn : n ≤ 65536) (hs : Seen w a (n * 16) (byt z)) :
    Calls Try.prog 15 #[.slice a n c] w fun e w' => MadeId w 47 n z e w' := by
  have hmk := run_make_ids 33 47 n hn Try.underlying33 Try.info47
  go_enter Try.func15, Try.ntmps15
  go_wp2
  go_loopw [4] (fun sl wr => ∃ k : Nat, k ≤ n ∧ sl = .int .i64 k ∧ FillId w wr 47 n k z) (fun sl _ => n - (intOf sl).toNat)
  case atStart => exact ⟨0, Nat.zero_le _, rfl, fillId_start _ _ _ _⟩
  case round =>
    obtain ⟨k, hk, rfl, hF⟩ := hrel
    clear hmk
    by_cases hlt : k < n
    · obtain ⟨b, off, rfl, hb, hc⟩ := (hs.below hF.2).all (by omega)
      have hc1 : ∀ j, j < 16 → wr.cell? ⟨b, off + k * 16 + j, none⟩ = some (byt z (k * 16 + j)) := fun j hj => by rw [Nat.add_assoc]; exact hc _ (by omega)
      have HC : Hid _ := hc1
      have HF : Hid _ := hF
      clear hs hc hc1 hF
      go_wp2_with (first | ((with_reducible refine wpList_load_id ?_ 46 (.tmp 18) ?_ b (off + k * 16) ?_ z (k * 16) HC.out is46 ?_); (focus exact rfl); (focus exact rfl); (focus exact rfl)) | ((with_reducible refine wpList_store_id ?_ 47 (.tmp 20) (.tmp 19) ?_ w.heap.size (k * 16) z (k * 16) ?_ ?_ 47 (n * 16) _ HF.out.1 ?_ is47 ?_); (focus exact rfl); (focus exact rfl); (focus exact rfl); (focus exact rfl); (focus omega); intro w1 hp))
      go_roundw
      case rel => exact ⟨k + 1, by omega, by go_num, fillId_step HF.out hp⟩
      case measure => simp [intOf]; omega
    · obtain rfl : k = n := by omega
      clear hs
      go_wp2
      go_ret
      exact ⟨rfl, fillId_done hF, hF.2⟩

theorem alloc16_row (w : World) (t : TypeId) : (w.alloc (.cells #[.int .u8 0, .int .u8 0, .int .u8 0, .int .u8 0, .int .u8 0, .int .u8 0, .int .u8 0, .int .u8 0, .int .u8 0, .int .u8 0, .int .u8 0, .int .u8 0, .int .u8 0, .int .u8 0, .int .u8 0, .int .u8 0] t)).rowIs w.heap.size t 16 (fun _ => .int .u8 0) :=
  ⟨_, heap_alloc_new w _, rfl, fun i hi => by
    have : i = 0 ∨ i = 1 ∨ i = 2 ∨ i = 3 ∨ i = 4 ∨ i = 5 ∨ i = 6 ∨ i = 7 ∨ i = 8 ∨ i = 9 ∨ i = 10 ∨ i = 11 ∨ i = 12 ∨ i = 13 ∨ i = 14 ∨ i = 15 := by omega
    rcases this with rfl | rfl | rfl | rfl | rfl | rfl | rfl | rfl | rfl | rfl | rfl | rfl | rfl | rfl | rfl | rfl <;> rfl⟩

theorem fillId_aside {w wr w1 : World} {t t' : TypeId} {n k o m c : Nat} {z z' : Nat → Int} {ob : Obj} {g : Nat → Value} (h : FillId w wr t n k z) (hp : Put (wr.alloc ob) w1 wr.heap.size o t' m z' c g) : FillId w w1 t n k z := by
  have hlt := h.1.lt
  refine ⟨(h.1.alloc ob).of_block (hp.2.2.1 _ (by omega)), (h.2.alloc h.2.size ob).trans (hp.2.2.2 _ h.2.size)⟩

theorem put16_cells {w w1 : World} {b c : Nat} {t : TypeId} {z : Nat → Int} {g : Nat → Value} (hp : Put w w1 b 0 t 16 z c g) : ∀ j, j < 16 → w1.cell? ⟨b, 0 + j, none⟩ = some (byt z (c + j)) := fun j hj => by
  rw [Nat.zero_add, hp.1.cell hj]
  simp [hj]

set_option maxRecDepth 100000 in
set_option maxHeartbeats 400000 in
theorem uuids_any (g n c : Nat) (z : Nat → Int) (w : World) (hn : n ≤ 65536) (hs : w.rowIs g 47 (n * 16) (byt z)) :
    Calls Try.prog 24 #[.slice (some ⟨g, 0, none⟩) n c] w fun e w' => MadeId w 46 n z e w' := by
  have hmk := run_make_ids 23 46 n hn Try.underlying23 Try.info46
  have hg := hs.lt
  go_enter Try.func24, Try.ntmps24
  go_wp2
  go_loopw [11] (fun sl wr => ∃ k : Nat, k ≤ n ∧ sl = .int .i64 k ∧ FillId w wr 46 n k z) (fun sl _ => n - (intOf sl).toNat)
  case atStart => exact ⟨0, Nat.zero_le _, rfl, fillId_start _ _ _ _⟩
  case round =>
    obtain ⟨k, hk, rfl, hF⟩ := hrel
    clear hmk
    by_cases hlt : k < n
    · have hsr := below_rows hs hF.2 hg
      have hc1 : ∀ j, j < 16 → wr.cell? ⟨g, k * 16 + j, none⟩ = some (byt z (k * 16 + j)) := fun j hj => hsr.cell (by omega)
      have HC : Hid _ := hc1
      have HF : Hid (FillId w wr 46 n k z) := hF
      clear hs hsr hc1 hF
      go_wp2_with (first | ((with_reducible refine wpList_load_id ?_ 47 (.tmp 14) ?_ g (k * 16) ?_ z (k * 16) HC.out is47 ?_); (focus exact rfl); (focus exact rfl); (focus exact rfl)) | ((with_reducible refine wpList_store_id ?_ 47 (.tmp 5) (.tmp 15) ?_ wr.heap.size 0 z (k * 16) ?_ ?_ 47 16 _ (alloc16_row _ _) ?_ is47 ?_); (focus exact rfl); (focus exact rfl); (focus exact rfl); (focus exact rfl); (focus omega); intro w1 hp1) | ((with_reducible refine wpList_load_id ?_ 47 (.tmp 5) ?_ wr.heap.size 0 ?_ z (k * 16) (put16_cells hp1) is47 ?_); (focus exact rfl); (focus exact rfl); (focus exact rfl)) | ((with_reducible refine wpList_store_id ?_ 46 (.tmp 19) (.tmp 18) ?_ w.heap.size (k * 16) z (k * 16) ?_ ?_ 46 (n * 16) _ (fillId_row (fillId_aside HF.out hp1)) ?_ is46 ?_); (focus exact rfl); (focus exact rfl); (focus exact rfl); (focus exact rfl); (focus omega); intro w2 hp2))
      go_roundw
      case rel => exact ⟨k + 1, by omega, by go_num, fillId_step (fillId_aside HF.out hp1) hp2⟩
      case measure => simp [intOf]; omega
    · obtain rfl : k = n := by omega
      go_wp2
      go_ret
      exact ⟨rfl, fillId_done hF, hF.2⟩
end Go.Proofs.Qxb6605586a.Sl
