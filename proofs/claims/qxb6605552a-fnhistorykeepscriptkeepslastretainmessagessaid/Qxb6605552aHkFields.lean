/-
  'ZZKeep', 'ZZHistoryFields'.
-/
import Derived.Test.Qxb6605552aHkKeep
namespace Go.Proofs.Qxb6605552a.Hk
open Go.RowKit

set_option maxHeartbeats 400000 in
theorem zzkeep_any (P : Nat → Value) (M : Nat → Int) (R B : Nat) (bx i : Nat) (w : World) (hH : Hist P M R B w bx i) (hi : i < 65536) (hM0 : -2147483648 ≤ M i) (hM1 : M i ≤ 2147483647) (pa : Option Addr) (pl pc : Nat) (hP : P i = .slice pa pl pc) (hPs : ∀ j, ∃ a l c, P j = .slice a l c) :
    Calls Try.prog 13 #[.pointer (some ⟨bx, 0, none⟩), .int .i64 (M i), .slice pa pl pc] w fun e w' => e = .returned (.tuple #[]) ∧ Hist P M R B w' bx (i + 1) ∧ Below B w w' := by
  have hk := keep_any P M R B bx i w hH hi hM0 hM1 pa pl pc hP hPs
  clear hH hP hPs
  go_enter Try.func13, Try.ntmps13
  go_wp2_with (go_at_call 19; refine hk.mono ?_; rintro e w' ⟨rfl, h1, h2⟩)
  go_end0
  exact ⟨rfl, ‹_›, ‹_›⟩

theorem Try.info21 : (Try.prog.info? 21).map (fun i => (i.zero, i.size, i.bytes)) = some (some (.int .i32 0), 1, 4) := by kernel_rfl
theorem Try.info29 : (Try.prog.info? 29).map (fun i => (i.zero, i.size, i.bytes)) = some (some (.slice none 0 0), 1, 24) := by kernel_rfl

/-- The members and the payloads of a ring, place by place. -/
def memAt (P : Nat → Value) (M : Nat → Int) (s n hd L t : Nat) : Value := ringCell P M s n hd L (t * 2 + 1)
def payAt (P : Nat → Value) (M : Nat → Int) (s n hd L t : Nat) : Value := ringCell P M s n hd L (t * 2)

theorem memAt_int (P : Nat → Value) (M : Nat → Int) (s n hd L t : Nat) : ∃ x, memAt P M s n hd L t = .int .i32 x := by
  unfold memAt ringCell
  split
  · rw [if_neg (by omega)]; exact ⟨_, rfl⟩
  · rw [if_neg (by omega)]; exact ⟨_, rfl⟩
theorem payAt_slice (P : Nat → Value) (M : Nat → Int) (s n hd L t : Nat) (hPs : ∀ j, ∃ a l c, P j = .slice a l c) : ∃ a l c, payAt P M s n hd L t = .slice a l c := by
  unfold payAt ringCell
  split
  · rw [if_pos (by omega)]; exact hPs _
  · rw [if_pos (by omega)]; exact ⟨_, _, _, rfl⟩

/-- The fields as they are handed back: two new rows. -/
def Read (P : Nat → Value) (M : Nat → Int) (w w' : World) (s n hd L k : Nat) : Prop :=
  w'.rowIs w.heap.size 21 L (fun t => if t < k then memAt P M s n hd L t else .int .i32 0) ∧ w'.rowIs (w.heap.size + 1) 29 L (fun t => if t < k then payAt P M s n hd L t else .slice none 0 0) ∧ Below w.heap.size w w'

theorem read_start (P : Nat → Value) (M : Nat → Int) (w : World) (s n hd L : Nat) : Read P M w ((w.alloc (.cells (madeCells #[.int .i32 0] L) 21)).alloc (.cells (madeCells #[.slice none 0 0] L) 29)) s n hd L 0 := by
  refine ⟨((World.rowIs_made w (.int .i32 0) L 21).alloc _).congr fun i _ => by simp, ?_, ((Below.refl _ _).alloc (Nat.le_refl _) _).alloc (by simp) _⟩
  have := World.rowIs_made (w.alloc (.cells (madeCells #[.int .i32 0] L) 21)) (.slice none 0 0) L 29
  simp only [World.size_alloc] at this
  exact this.congr fun i _ => by simp

theorem read_step {P : Nat → Value} {M : Nat → Int} {w wr : World} {s n hd L k : Nat} (h : Read P M w wr s n hd L k) :
    Read P M w ((wr.setCell ⟨w.heap.size, k, none⟩ (memAt P M s n hd L k)).setCell ⟨w.heap.size + 1, k, none⟩ (payAt P M s n hd L k)) s n hd L (k + 1) := by
  obtain ⟨h1, h2, h3⟩ := h
  refine ⟨((h1.set _ _).setOther (by show w.heap.size ≠ w.heap.size + 1; omega) _).congr fun t _ => ?_, ((h2.setOther (by show w.heap.size + 1 ≠ w.heap.size; omega) _).set _ _).congr fun t _ => ?_, (h3.setCell (Nat.le_refl _) _).setCell (by show w.heap.size ≤ w.heap.size + 1; omega) _⟩
  · by_cases e : t = k
    · subst e; simp
    · by_cases h : t < k
      · simp [e, h, show t < k + 1 by omega]
      · simp [e, h, show ¬ t < k + 1 by omega]
  · by_cases e : t = k
    · subst e; simp
    · by_cases h : t < k
      · simp [e, h, show t < k + 1 by omega]
      · simp [e, h, show ¬ t < k + 1 by omega]

set_option maxRecDepth 100000 in
set_option maxHeartbeats 1000000 in
theorem fields_any (P : Nat → Value) (M : Nat → Int) (R : Int) (B : Nat) (bx g s n hd L m : Nat) (w : World) (hb : Body P M R B w bx g s n hd L m) (hL : L ≤ 131072) (hPs : ∀ j, ∃ a l c, P j = .slice a l c) :
    Calls Try.prog 14 #[.pointer (some ⟨bx, 0, none⟩)] w fun e w' =>
      e = .returned (.tuple #[.int .i64 R, .int .u64 s, .slice (some ⟨w.heap.size, 0, none⟩) L L, .slice (some ⟨w.heap.size + 1, 0, none⟩) L L, .int .i64 hd, .int .i64 n, .int .i64 m]) ∧ Read P M w w' s n hd L L := by
  obtain ⟨b0, b1, b2, b3, b4, b5⟩ := hb.cells
  have hbx := hb.box.lt
  have hgx := hb.ring.lt
  have HPs : Hid (∀ j, ∃ a l c, P j = .slice a l c) := hPs
  have hmk1 := run_make_row' (P := Try.prog) 27 21 (.int .i32 0) 4 Try.underlying27 Try.info21 rfl .i64 .i64 L (by omega) (by omega)
  have hmk2 := run_make_row' (P := Try.prog) 28 29 (.slice none 0 0) 24 Try.underlying28 Try.info29 rfl .i64 .i64 L (by omega) (by omega)
  clear hPs
  go_enter Try.func14, Try.ntmps14
  go_wp2
  go_loopw [27] (fun sl wr => ∃ k : Nat, k ≤ L ∧ sl = .int .i64 k ∧ Read P M w wr s n hd L k) (fun sl _ => L - (intOf sl).toNat)
  case atStart => exact ⟨0, Nat.zero_le _, rfl, read_start P M w s n hd L⟩
  case round =>
    obtain ⟨k, hk, rfl, hr⟩ := hrel
    have e0 : wr.cell? ⟨bx, 0, none⟩ = some (.int .i64 R) := (hr.2.2.cell (by exact hbx)).trans b0
    have e1 : wr.cell? ⟨bx, 1, none⟩ = some (.int .u64 s) := (hr.2.2.cell (by exact hbx)).trans b1
    have e2 : wr.cell? ⟨bx, 2, none⟩ = some (.slice (some ⟨g, 0, none⟩) L L) := (hr.2.2.cell (by exact hbx)).trans b2
    have e3 : wr.cell? ⟨bx, 3, none⟩ = some (.int .i64 hd) := (hr.2.2.cell (by exact hbx)).trans b3
    have e4 : wr.cell? ⟨bx, 4, none⟩ = some (.int .i64 n) := (hr.2.2.cell (by exact hbx)).trans b4
    have e5 : wr.cell? ⟨bx, 5, none⟩ = some (.int .i64 m) := (hr.2.2.cell (by exact hbx)).trans b5
    clear b0 b1 b2 b3 b4 b5 hmk1 hmk2
    by_cases hlt : k < L
    · have r1 : wr.cell? ⟨g, k * 2 + 1, none⟩ = some (memAt P M s n hd L k) := (hr.2.2.cell (by exact hgx)).trans (hb.ring.cell (by omega))
      have r2 : wr.cell? ⟨g, k * 2, none⟩ = some (payAt P M s n hd L k) := (hr.2.2.cell (by exact hgx)).trans (hb.ring.cell (by omega))
      have f1 := hr.1.frozen k
      have f2 := hr.2.1.frozen k
      have v1 := hr.1.cell hlt
      have v2 := hr.2.1.cell hlt
      simp only [Nat.lt_irrefl, if_false] at v1 v2
      have RS := read_step hr
      obtain ⟨x, hx⟩ := memAt_int P M s n hd L k
      obtain ⟨pa, pl, pc, hpx⟩ := payAt_slice P M s n hd L k HPs.out
      rw [hx] at r1 RS
      rw [hpx] at r2 RS
      have HR : Hid _ := RS
      clear hx hpx RS hr hb
      go_wp2
      go_roundw
      case rel => exact ⟨k + 1, by omega, by go_num, HR.out⟩
      case measure => simp [intOf]; omega
    · obtain rfl : k = L := by omega
      go_wp2
      go_quiet (fail)
      go_wp2
      exact bodyPost_ret (v := .tuple #[.int .i64 R, .int .u64 s, .slice (some ⟨w.heap.size, 0, none⟩) k k, .slice (some ⟨w.heap.size + 1, 0, none⟩) k k, .int .i64 hd, .int .i64 n, .int .i64 m]) (by simp [results, Try.results14, go_sem]) rfl ⟨rfl, hr.1.of_block rfl, hr.2.1.of_block rfl, below_drewN hr.2.2 _⟩
end Go.Proofs.Qxb6605552a.Hk
