/-
  'positionsAndIDs', 'ZZPositionsAndIDs'.
-/
import Derived.Test.Qxb6605586aRefWalks
namespace Go.Proofs.Qxb6605586a.Sl
open Go.RowKit

/-- Two new rows: k1 positions and k2 ids are written. -/
def TwoRef (w wr : World) (n k1 k2 : Nat) (z q : Nat → Int) : Prop :=
  wr.rowIs w.heap.size 2 n (fun j => if j < k1 then i64s q j else .int .i64 0) ∧ wr.rowIs (w.heap.size + 1) 46 (n * 16) (fun j => if j < k2 * 16 then byt z j else .int .u8 0) ∧ Below w.heap.size w wr

theorem twoRef_start (w : World) (n : Nat) (z q : Nat → Int) : TwoRef w ((w.alloc (.cells (madeCells #[.int .i64 0] n) 2)).alloc (.cells (made16 n) 46)) n 0 0 z q := by
  refine ⟨((World.rowIs_made w _ n 2).alloc _).congr fun i _ => by simp, ?_, ((Below.refl _ _).alloc (Nat.le_refl _) _).alloc (by simp) _⟩
  have := made16_row (w.alloc (.cells (madeCells #[.int .i64 0] n) 2)) n 46
  simp only [World.size_alloc] at this
  exact this.congr fun i _ => by simp

theorem twoRef_aside {w wr w1 : World} {n k1 k2 o m k : Nat} {t : TypeId} {z q z' q' : Nat → Int} {ob : Obj} {g : Nat → Value} (h : TwoRef w wr n k1 k2 z q) (hp : PutRef (wr.alloc ob) w1 wr.heap.size o t m z' q' k g) : TwoRef w w1 n k1 k2 z q := by
  obtain ⟨h1, h2, h3⟩ := h
  have l1 := h1.lt
  have l2 := h2.lt
  exact ⟨(h1.alloc ob).of_block (hp.2.2.1 _ (by omega)), (h2.alloc ob).of_block (hp.2.2.1 _ (by omega)), (h3.alloc h3.size ob).trans (hp.2.2.2 _ h3.size)⟩

theorem twoRef_pos {w wr : World} {n k k2 : Nat} {z q : Nat → Int} (h : TwoRef w wr n k k2 z q) : TwoRef w (wr.setCell ⟨w.heap.size, k, none⟩ (.int .i64 (q k))) n (k + 1) k2 z q := by
  obtain ⟨h1, h2, h3⟩ := h
  exact ⟨(h1.set _ _).congr fun j _ => setInt_congr (f := i64s q) j, h2.setOther (by show w.heap.size + 1 ≠ w.heap.size; omega) _, h3.setCell (Nat.le_refl _) _⟩

theorem twoRef_ids {w wr : World} {n k1 k2 : Nat} {z q : Nat → Int} (h : TwoRef w wr n k1 k2 z q) : wr.rowIs (w.heap.size + 1) 46 (n * 16) (fun j => if j < k2 * 16 then byt z j else .int .u8 0) := h.2.1

theorem twoRef_id {w wr w1 : World} {n k1 k : Nat} {z q : Nat → Int} (h : TwoRef w wr n k1 k z q) (hp : Put wr w1 (w.heap.size + 1) (k * 16) 46 (n * 16) z (k * 16) (fun j => if j < k * 16 then byt z j else .int .u8 0)) : TwoRef w w1 n k1 (k + 1) z q := by
  obtain ⟨h1, h2, h3⟩ := h
  refine ⟨h1.of_block (hp.2.2.1 _ (by omega)), hp.1.congr fun j _ => ?_, h3.trans (hp.2.2.2 _ (by omega))⟩
  by_cases c1 : k * 16 ≤ j ∧ j < k * 16 + 16
  · rw [if_pos c1, if_pos (by omega), show k * 16 + (j - k * 16) = j by omega]
  · rw [if_neg c1]
    show (if j < k * 16 then byt z j else .int .u8 0) = _
    by_cases c2 : j < k * 16
    · rw [if_pos c2, if_pos (by omega)]
    · rw [if_neg c2, if_neg (by omega)]

theorem alloc17_row (w : World) (t : TypeId) : (w.alloc (.cells #[.int .u8 0, .int .u8 0, .int .u8 0, .int .u8 0, .int .u8 0, .int .u8 0, .int .u8 0, .int .u8 0, .int .u8 0, .int .u8 0, .int .u8 0, .int .u8 0, .int .u8 0, .int .u8 0, .int .u8 0, .int .u8 0, .int .i64 0] t)).rowIs w.heap.size t 17 refz :=
  ⟨_, heap_alloc_new w _, rfl, fun i hi => zero17_at i hi⟩

theorem putRef_id {w w1 : World} {b k : Nat} {t : TypeId} {z q : Nat → Int} {g : Nat → Value} (hp : PutRef w w1 b 0 t 17 z q k g) {B i : Nat} (hB : b ≠ B) (v : Value) : ∀ j, j < 16 → (w1.setCell ⟨B, i, none⟩ v).cell? ⟨b, 0 + j, none⟩ = some (byt z (k * 16 + j)) := fun j hj => by
  rw [Nat.zero_add, (hp.1.setOther hB v).cell (show j < 17 by omega)]
  simp [show j < 17 by omega, refc_id z q k j hj]

theorem putRef_pos {w w1 : World} {b k : Nat} {t : TypeId} {z q : Nat → Int} {g : Nat → Value} (hp : PutRef w w1 b 0 t 17 z q k g) : w1.cell? ⟨b, 16, none⟩ = some (.int .i64 (q k)) := by
  rw [hp.1.cell (show 16 < 17 by omega)]
  simp [refc_pos]

theorem twoRef_cell {w wr : World} {n k k2 : Nat} {z q : Nat → Int} (h : TwoRef w wr n k k2 z q) (hlt : k < n) : wr.cell? ⟨w.heap.size, k, none⟩ = some (.int .i64 0) ∧ wr.frozen? ⟨w.heap.size, k, none⟩ = false :=
  ⟨by rw [h.1.cell hlt]; simp, h.1.frozen k⟩

/-- How 'positionsAndIDs' ends. -/
def UnzipRef (w : World) (n : Nat) (z q : Nat → Int) (e : Ending) (w' : World) : Prop :=
  e = .returned (.tuple #[.slice (some ⟨w.heap.size, 0, none⟩) n n, .slice (some ⟨w.heap.size + 1, 0, none⟩) n n]) ∧ w'.rowIs w.heap.size 2 n (i64s q) ∧ w'.rowIs (w.heap.size + 1) 46 (n * 16) (byt z) ∧ Below w.heap.size w w'

set_option maxRecDepth 100000 in
set_option maxHeartbeats 800000 in
theorem posIDs_any (g n c : Nat) (z q : Nat → Int) (w : World) (hn : n ≤ 65536) (hs : w.rowIs g 49 (n * 17) (refc z q)) :
    Calls Try.prog 23 #[.slice (some ⟨g, 0, none⟩) n c] w fun e w' => UnzipRef w n z q e w' := by
  have hmk1 := run_make_row' (P := Try.prog) 22 2 (.int .i64 0) 8 Try.underlying22 Try.info2 rfl .i64 .i64 n (by omega) (by omega)
  have hmk2 := run_make_ids 23 46 n hn Try.underlying23 Try.info46
  have hg := hs.lt
  go_enter Try.func23, Try.ntmps23
  go_wp2
  go_loopw [16] (fun sl wr => ∃ k : Nat, k ≤ n ∧ sl = .int .i64 k ∧ TwoRef w wr n k k z q) (fun sl _ => n - (intOf sl).toNat)
  case atStart => exact ⟨0, Nat.zero_le _, rfl, twoRef_start _ _ _ _⟩
  case round =>
    obtain ⟨k, hk, rfl, hF⟩ := hrel
    clear hmk1 hmk2
    by_cases hlt : k < n
    · have hsr := below_rows hs hF.2.2 hg
      have hc1 : ∀ j, j < 17 → wr.cell? ⟨g, k * 17 + j, none⟩ = some (refc z q (k * 17 + j)) := fun j hj => hsr.cell (by omega)
      have l1 := hF.1.lt
      have l2 := hF.2.1.lt
      have HC : Hid (∀ j, j < 17 → wr.cell? ⟨g, k * 17 + j, none⟩ = some (refc z q (k * 17 + j))) := hc1
      have HF : Hid (TwoRef w wr n k k z q) := hF
      clear hs hsr hc1 hF
      have hne : wr.heap.size ≠ w.heap.size := by omega
      go_wp2_with (first | ((with_reducible refine wpList_load_ref ?_ (.tmp 19) ?_ g (k * 17) ?_ z q k HC.out ?_); (focus exact rfl); (focus exact rfl); (focus exact rfl)) | ((with_reducible refine wpList_store_ref ?_ (.tmp 7) (.tmp 20) ?_ wr.heap.size 0 z q k ?_ ?_ 49 17 _ (alloc17_row _ _) ?_ ?_); (focus exact rfl); (focus exact rfl); (focus exact rfl); (focus exact rfl); (focus omega); intro w1 hp1; have c16 := putRef_pos hp1; obtain ⟨v1, f1⟩ := twoRef_cell (twoRef_aside HF.out hp1) hlt) | ((with_reducible refine wpList_load_id ?_ 47 (.tmp 28) ?_ wr.heap.size 0 ?_ z (k * 16) (putRef_id hp1 hne _) is47 ?_); (focus exact rfl); (focus exact rfl); (focus exact rfl)) | ((with_reducible refine wpList_store_id ?_ 46 (.tmp 30) (.tmp 29) ?_ (w.heap.size + 1) (k * 16) z (k * 16) ?_ ?_ 46 (n * 16) _ (twoRef_ids (twoRef_pos (twoRef_aside HF.out hp1))) ?_ is46 ?_); (focus exact rfl); (focus exact rfl); (focus exact rfl); (focus exact rfl); (focus omega); intro w2 hp2))
      go_roundw
      case rel => exact ⟨k + 1, by omega, by go_num, twoRef_id (twoRef_pos (twoRef_aside HF.out hp1)) hp2⟩
      case measure => simp [intOf]; omega
    · obtain rfl : k = n := by omega
      go_wp2
      go_ret2
      exact ⟨rfl, hF.1.congr fun j hj => by simp [hj], hF.2.1.congr fun j hj => by simp [hj], hF.2.2⟩
end Go.Proofs.Qxb6605586a.Sl
