/-
  '(*history).keep'.
-/
import Derived.Test.Qxb6605552aHkAt
import Derived.Deep.DeepCutAuto
import Derived.Deep.LoopGhost
import Derived.RegionTactic
namespace Go.Proofs.Qxb6605552a.Hk
open Go.RowKit

/-- The history as 'keep' finds it: the first i positions of the script have gone through it. -/
def Hist (P : Nat → Value) (M : Nat → Int) (R B : Nat) (w : World) (h i : Nat) : Prop :=
  ∃ g s n hd L, Body P M R B w h g s n hd L (cnt M s i) ∧ s + n = i ∧ n ≤ L ∧ L ≤ 131072 ∧ ((L = 0 ∧ hd = 0 ∧ i = 0) ∨ (Pow L ∧ 64 ≤ L ∧ hd < L ∧ 0 < i)) ∧ Good M R s i

/-- .. behind the growth of the ring. -/
def Room (P : Nat → Value) (M : Nat → Int) (R B : Nat) (w0 w : World) (h s n m : Nat) : Prop :=
  ∃ g hd L, Body P M R B w h g s n hd L m ∧ n < L ∧ L ≤ 131072 ∧ Pow L ∧ 64 ≤ L ∧ hd < L ∧ Below B w0 w

theorem Body.same {P : Nat → Value} {M : Nat → Int} {R : Int} {B : Nat} {w w' : World} {h g s n hd L m : Nat} (hb : Body P M R B w h g s n hd L m) (e : w'.heap = w.heap) : Body P M R B w' h g s n hd L m :=
  ⟨hb.hB, hb.gB, hb.ne, hb.box.of_block (by rw [e]), hb.ring.of_block (by rw [e])⟩

/-- The six cells, one by one, and that they may be written. -/
theorem Body.cells {P : Nat → Value} {M : Nat → Int} {R : Int} {B : Nat} {w : World} {h g s n hd L m : Nat} (hb : Body P M R B w h g s n hd L m) :
    w.cell? ⟨h, 0, none⟩ = some (.int .i64 R) ∧ w.cell? ⟨h, 1, none⟩ = some (.int .u64 s) ∧ w.cell? ⟨h, 2, none⟩ = some (.slice (some ⟨g, 0, none⟩) L L) ∧ w.cell? ⟨h, 3, none⟩ = some (.int .i64 hd) ∧ w.cell? ⟨h, 4, none⟩ = some (.int .i64 n) ∧ w.cell? ⟨h, 5, none⟩ = some (.int .i64 m) :=
  ⟨hb.box.cell (by omega), hb.box.cell (by omega), hb.box.cell (by omega), hb.box.cell (by omega), hb.box.cell (by omega), hb.box.cell (by omega)⟩
theorem Body.frozen {P : Nat → Value} {M : Nat → Int} {R : Int} {B : Nat} {w : World} {h g s n hd L m : Nat} (hb : Body P M R B w h g s n hd L m) (j : Nat) : w.frozen? ⟨h, j, none⟩ = false := hb.box.frozen j

/-- The ring is being laid anew: k places are over. -/
def Grow (P : Nat → Value) (M : Nat → Int) (R B : Nat) (w wr : World) (h g g2 s n hd L m k L2 : Nat) : Prop :=
  Body P M R B wr h g s n hd L m ∧ B ≤ g2 ∧ g2 ≠ h ∧ g2 ≠ g ∧ wr.rowIs g2 44 (2 * L2) (ringCell P M s k 0 L2) ∧ Below B w wr

theorem grow_start {P : Nat → Value} {M : Nat → Int} {R B : Nat} {w : World} {h g s n hd L m : Nat} (L2 : Nat) (hb : Body P M R B w h g s n hd L m) :
    Grow P M R B w ((w.alloc (.cells (madeCells #[.slice none 0 0, .int .i32 0] (L2 * 2)) 44)).drew) h g w.heap.size s n hd L m 0 L2 := by
  have hB := Nat.le_trans hb.gB (Nat.le_of_lt hb.ring.lt)
  refine ⟨?_, hB, Nat.ne_of_gt hb.box.lt, Nat.ne_of_gt hb.ring.lt, ring_made w P M s L2, ((Below.refl _ _).alloc hB _).drew⟩
  exact ⟨hb.hB, hb.gB, hb.ne, (hb.box.alloc _).of_block rfl, (hb.ring.alloc _).of_block rfl⟩

theorem grow_step {P : Nat → Value} {M : Nat → Int} {R B : Nat} {w wr : World} {h g g2 s n hd L m k L2 : Nat} (q : Nat) (hG : Grow P M R B w wr h g g2 s n hd L m k L2) (hk : k < L2) :
    Grow P M R B w (((wr.drewN q).setCell ⟨g2, k * 2, none⟩ (P (s + k))).setCell ⟨g2, k * 2 + 1, none⟩ (.int .i32 (M (s + k)))) h g g2 s n hd L m (k + 1) L2 := by
  obtain ⟨hb, h1, h2, h3, h4, h5⟩ := hG
  refine ⟨?_, h1, h2, h3, ?_, ((below_drewN h5 q).setCell h1 _).setCell h1 _⟩
  · exact ⟨hb.hB, hb.gB, hb.ne, ((hb.box.of_block (w' := wr.drewN q) rfl).setOther (Ne.symm h2) _).setOther (Ne.symm h2) _, ((hb.ring.of_block (w' := wr.drewN q) rfl).setOther (Ne.symm h3) _).setOther (Ne.symm h3) _⟩
  · refine (((h4.of_block (w' := wr.drewN q) rfl).set _ _).set _ _).congr fun c hc => ?_
    have e : pos 0 L2 k = k := by unfold pos; rw [if_pos (by omega)]; omega
    have := ring_write (P := P) (M := M) (s := s) (show 0 < L2 by omega) hk c hc
    rw [e] at this
    exact this

theorem grow_done {P : Nat → Value} {M : Nat → Int} {R B : Nat} {w wr : World} {h g g2 s n hd L m L2 : Nat} (hG : Grow P M R B w wr h g g2 s n hd L m n L2) (hn : n < L2) (hL : L2 ≤ 131072) (hp : Pow L2) (h64 : 64 ≤ L2) :
    Room P M R B w ((wr.setCell ⟨h, 2, none⟩ (.slice (some ⟨g2, 0, none⟩) L2 L2)).setCell ⟨h, 3, none⟩ (.int .i64 0)) h s n m := by
  obtain ⟨hb, h1, h2, h3, h4, h5⟩ := hG
  refine ⟨g2, 0, L2, ⟨hb.hB, h1, Ne.symm h2, ((hb.box.set _ _).set _ _).congr fun j hj => ?_, (h4.setOther h2 _).setOther h2 _⟩, hn, hL, hp, h64, by omega, (h5.setCell hb.hB _).setCell hb.hB _⟩
  match j, hj with
  | 0, _ => rfl
  | 1, _ => rfl
  | 2, _ => rfl
  | 3, _ => rfl
  | 4, _ => rfl
  | 5, _ => rfl

theorem body_msgs {P : Nat → Value} {M : Nat → Int} {R : Int} {B : Nat} {w : World} {h g s n hd L m : Nat} (m2 : Nat) (hb : Body P M R B w h g s n hd L m) : Body P M R B (w.setCell ⟨h, 5, none⟩ (.int .i64 m2)) h g s n hd L m2 := by
  refine ⟨hb.hB, hb.gB, hb.ne, (hb.box.set _ _).congr fun j hj => ?_, hb.ring.setOther (Ne.symm hb.ne) _⟩
  match j, hj with
  | 0, _ => rfl
  | 1, _ => rfl
  | 2, _ => rfl
  | 3, _ => rfl
  | 4, _ => rfl
  | 5, _ => rfl

theorem body_put {P : Nat → Value} {M : Nat → Int} {R : Int} {B : Nat} {w : World} {h g s n hd L m : Nat} (q : Nat) (hb : Body P M R B w h g s n hd L m) (hn : n < L) (hh : hd < L) :
    Body P M R B ((((w.drewN q).setCell ⟨g, pos hd L n * 2, none⟩ (P (s + n))).setCell ⟨g, pos hd L n * 2 + 1, none⟩ (.int .i32 (M (s + n)))).setCell ⟨h, 4, none⟩ (.int .i64 ((n : Int) + 1))) h g s (n + 1) hd L m := by
  refine ⟨hb.hB, hb.gB, hb.ne, ((((hb.box.of_block (w' := w.drewN q) rfl).setOther hb.ne _).setOther hb.ne _).set _ _).congr fun j hj => ?_,
    (((((hb.ring.of_block (w' := w.drewN q) rfl).set _ _).set _ _).congr fun c hc => ring_write hh hn c hc)).setOther (Ne.symm hb.ne) _⟩
  match j, hj with
  | 0, _ => rfl
  | 1, _ => rfl
  | 2, _ => rfl
  | 3, _ => rfl
  | 4, _ => simp [fld]
  | 5, _ => rfl

theorem body_drop {P : Nat → Value} {M : Nat → Int} {R : Int} {B : Nat} {w : World} {h g s n hd L m : Nat} (hb : Body P M R B w h g s (n + 1) hd L m) (hn : n + 1 ≤ L) (hh : hd < L) :
    Body P M R B (((((w.setCell ⟨g, hd * 2, none⟩ (.slice none 0 0)).setCell ⟨g, hd * 2 + 1, none⟩ (.int .i32 0)).setCell ⟨h, 3, none⟩ (.int .i64 (pos hd L 1))).setCell ⟨h, 4, none⟩ (.int .i64 n)).setCell ⟨h, 1, none⟩ (.int .u64 ((s : Int) + 1))) h g (s + 1) n (pos hd L 1) L m := by
  refine ⟨hb.hB, hb.gB, hb.ne, (((((hb.box.setOther hb.ne _).setOther hb.ne _).set _ _).set _ _).set _ _).congr fun j hj => ?_,
    ((((((hb.ring.set _ _).set _ _).congr fun c hc => ring_drop hh hn c hc)).setOther (Ne.symm hb.ne) _).setOther (Ne.symm hb.ne) _).setOther (Ne.symm hb.ne) _⟩
  match j, hj with
  | 0, _ => rfl
  | 1, _ => simp [fld]
  | 2, _ => rfl
  | 3, _ => rfl
  | 4, _ => rfl
  | 5, _ => rfl

/-- What the loop that lets the oldest go holds on to. -/
def Drop (P : Nat → Value) (M : Nat → Int) (R B : Nat) (w wr : World) (h g L T n : Nat) : Prop :=
  ∃ s hd, Body P M R B wr h g s n hd L (cnt M s T) ∧ s + n = T ∧ n ≤ L ∧ hd < L ∧ Half M R s T ∧ Below B w wr

theorem pow_grow {L L2 : Nat} (h : (L = 0 ∧ L2 = 64) ∨ (Pow L ∧ L ≤ 65536 ∧ L2 = 2 * L)) : Pow L2 := by
  rcases h with ⟨_, rfl⟩ | ⟨⟨e, he, h40⟩, hL, rfl⟩
  · exact ⟨6, rfl, by omega⟩
  · refine ⟨e + 1, by rw [he, Nat.pow_succ]; omega, ?_⟩
    have : e ≤ 16 := by
      refine Nat.le_of_not_lt fun hlt => ?_
      have : 2 ^ 17 ≤ 2 ^ e := Nat.pow_le_pow_right (by omega) hlt
      omega
    omega

set_option maxRecDepth 100000 in
set_option maxHeartbeats 1200000 in
theorem keep_any (P : Nat → Value) (M : Nat → Int) (R B : Nat) (bx i : Nat) (w : World) (hH : Hist P M R B w bx i) (hi : i < 65536) (hM0 : -2147483648 ≤ M i) (hM1 : M i ≤ 2147483647) (pa : Option Addr) (pl pc : Nat) (hP : P i = .slice pa pl pc) (hPs : ∀ j, ∃ a l c, P j = .slice a l c) :
    Calls Try.prog 19 #[.pointer (some ⟨bx, 0, none⟩), .int .i64 (M i), .slice pa pl pc] w fun e w' => e = .returned (.tuple #[]) ∧ Hist P M R B w' bx (i + 1) ∧ Below B w w' := by
  obtain ⟨g, s, n, hd, L, hb, hsn, hnL, hL, hsh, hG⟩ := hH
  have c2 := hb.box.cell (i := 2) (by omega)
  have c4 := hb.box.cell (i := 4) (by omega)
  simp only [fld] at c2 c4
  have HSN : Hid (s + n = i) := hsn
  have HP : Hid (P i = .slice pa pl pc) := hP
  have HPs : Hid (∀ j, ∃ a l c, P j = .slice a l c) := hPs
  clear hsn hP hPs
  go_enter Try.func19, Try.ntmps19
  go_wp2
  go_region
  go_upto_if 18 with fail
  go_cut [] (fun wc => Room P M R B w wc bx s n (cnt M s i))
  case first =>
    by_cases hfull : n = L
    · subst hfull
      have hn65 : n < 65536 := by have := HSN.out; omega
      have hbx := hb.box.lt
      have hgx := hb.ring.lt
      rcases hsh with ⟨h0, hd0, hi0⟩ | ⟨hp, h64, hhd, _⟩
      · have hn0 : n ≤ 0 := by omega
        have hmk : ∀ w, (Instr.makeSlice 42 (.int .i64 64) (.int .i64 64)).run Try.prog w = .ok (.slice (some ⟨w.heap.size, 0, none⟩) 64 64) (w.alloc (.cells (madeCells #[.slice none 0 0, .int .i32 0] (64 * 2)) 44)) := fun w => run_make_kept 64 (by omega) w
        clear h0 hd0 hi0
        go_wp2
        go_loopw [31] (fun sl wr => sl = .int .i64 0 ∧ Grow P M R B w wr bx g w.heap.size s n hd n (cnt M s i) 0 64) (fun _ _ => 0)
        case atStart => exact ⟨rfl, grow_start 64 hb⟩
        case round =>
          obtain ⟨rfl, hGr⟩ := hrel
          obtain ⟨_, _, b2, b3, _, _⟩ := hGr.1.cells
          have z2 := hGr.1.frozen 2
          have z3 := hGr.1.frozen 3
          obtain rfl : n = 0 := by omega
          have RM := grow_done hGr (by omega) (by omega) (pow_grow (L := 0) (.inl ⟨rfl, rfl⟩)) (by omega)
          clear hGr hb hG
          go_wp2
          go_meet
          case rel => exact RM
      · have hmk : ∀ w, (Instr.makeSlice 42 (.int .i64 (2 * (n : Int))) (.int .i64 (2 * (n : Int)))).run Try.prog w = .ok (.slice (some ⟨w.heap.size, 0, none⟩) (2 * n) (2 * n)) (w.alloc (.cells (madeCells #[.slice none 0 0, .int .i32 0] (2 * n * 2)) 44)) := fun w => by
          have := run_make_kept (2 * n) (by omega) w
          rw [show ((2 * n : Nat) : Int) = 2 * (n : Int) by omega] at this
          exact this
        simp only [beq_self_eq_true]
        go_wp2
        go_loopw [31] (fun sl wr => ∃ k : Nat, k ≤ n ∧ sl = .int .i64 k ∧ Grow P M R B w wr bx g w.heap.size s n hd n (cnt M s i) k (2 * n)) (fun sl _ => n - (intOf sl).toNat)
        case atStart => exact ⟨0, Nat.zero_le _, rfl, grow_start (2 * n) hb⟩
        case round =>
          obtain ⟨k, hk, rfl, hGr⟩ := hrel
          by_cases hlt : k < n
          · have hat := at_any R bx g s n hd n _ k wr hGr.1.box hp (by omega) (by omega) (by omega) hhd
            obtain ⟨e1, e2⟩ := ring_read (P := P) (M := M) (s := s) hhd (Nat.le_refl n) hlt
            have r1 := hGr.1.ring.cell (i := pos hd n k * 2) (by have := pos_lt hhd hk; omega)
            have r2 := hGr.1.ring.cell (i := pos hd n k * 2 + 1) (by have := pos_lt hhd hk; omega)
            rw [e1] at r1
            rw [e2] at r2
            clear e1 e2
            obtain ⟨a1, l1, k1, hPk⟩ := HPs.out (s + k)
            have R1 := fun q => grow_step q hGr (show k < 2 * n by omega)
            rw [hPk] at r1
            simp only [hPk] at R1
            have f1 := hGr.2.2.2.2.1.frozen (k * 2)
            have f2 := hGr.2.2.2.2.1.frozen (k * 2 + 1)
            have v1 := hGr.2.2.2.2.1.cell (i := k * 2) (by omega)
            have v2 := hGr.2.2.2.2.1.cell (i := k * 2 + 1) (by omega)
            generalize ringCell P M s k 0 (2 * n) (k * 2) = x1 at v1
            generalize ringCell P M s k 0 (2 * n) (k * 2 + 1) = x2 at v2
            generalize pos hd n k = t at *
            generalize M (s + k) = ms at *
            have R2 : Hid _ := R1
            clear hPk R1 hGr hG hmk
            go_wp2_with (go_at_call 21; refine hat.mono ?_; rintro e w' ⟨rfl, q, rfl⟩)
            go_roundw
            case rel => exact ⟨k + 1, by omega, by go_num, R2.out q⟩
            case measure => simp [intOf]; omega
          · obtain rfl : k = n := by omega
            obtain ⟨_, _, b2, b3, _, _⟩ := hGr.1.cells
            have z2 := hGr.1.frozen 2
            have z3 := hGr.1.frozen 3
            have RM := grow_done hGr (by omega) (by omega) (pow_grow (.inr ⟨hp, by omega, rfl⟩)) (by omega)
            clear hGr hb hG
            go_wp2
            go_meet
            case rel => exact RM
    · have hne : ((n : Int) == (L : Int)) = false := beq_eq_false_iff_ne.2 (by omega)
      go_wp2
      go_meet
      case rel =>
        rcases hsh with hsh | ⟨hp, h64, hlt, _⟩
        · omega
        · exact ⟨g, hd, L, hb.same rfl, by omega, hL, hp, h64, hlt, (Below.refl _ _).drew⟩
  case rest =>
    clear hb hsh hnL hL c2 c4
    obtain ⟨g, hd, L, hb, hnL, hL, hp, h64, hhd, hbel⟩ := hcut
    go_upto_if 51 with fail
    go_cut [] (fun wd => Body P M R B wd bx g s n hd L (cnt M s (i + 1)) ∧ Below B w wd)
    case first =>
      obtain ⟨_, _, _, _, _, b5⟩ := hb.cells
      have z5 := hb.frozen 5
      have hcl := cnt_le (ms := M) hG.1
      by_cases hm : 0 ≤ M i
      · have RM := body_msgs (cnt M s (i + 1)) hb
        have HE : Hid (cnt M s (i + 1) = cnt M s i + 1) := cnt_more hG.1 hm
        go_wp2
        go_meet
        case rel =>
          rw [HE.out] at RM ⊢
          exact ⟨by simpa using RM, hbel.setCell hb.hB _⟩
      · have HE : Hid (cnt M s (i + 1) = cnt M s i) := cnt_same hm
        go_wp2
        go_meet
        case rel => exact ⟨by rw [HE.out]; exact hb, hbel⟩
    case rest =>
      clear hb hbel
      obtain ⟨hb, hbel⟩ := hcut
      obtain ⟨_, _, _, _, b4, _⟩ := hb.cells
      have z4 := hb.frozen 4
      have hat := at_any R bx g s n hd L _ n wc hb.box hp (by omega) (by omega) (by omega) hhd
      have RP := fun q => body_put q hb hnL hhd
      rw [HSN.out] at RP
      rw [HP.out] at RP
      have f1 := hb.ring.frozen (pos hd L n * 2)
      have f2 := hb.ring.frozen (pos hd L n * 2 + 1)
      have hpl := pos_lt hhd (show n ≤ L by omega)
      have v1 := hb.ring.cell (i := pos hd L n * 2) (by omega)
      have v2 := hb.ring.cell (i := pos hd L n * 2 + 1) (by omega)
      generalize ringCell P M s n hd L (pos hd L n * 2) = x1 at v1
      generalize ringCell P M s n hd L (pos hd L n * 2 + 1) = x2 at v2
      generalize pos hd L n = t at *
      have hne := hb.ne
      have HR : Hid _ := RP
      clear RP
      go_wp2_with (go_at_call 21; refine hat.mono ?_; rintro e w' ⟨rfl, q, rfl⟩)
      go_loopg [] (n + 1) (fun k wr => Drop P M R B w wr bx g L (i + 1) k)
      case atStart => exact ⟨s, hd, HR.out q, by have := HSN.out; omega, by omega, hhd, half_start hG, (((below_drewN hbel q).setCell hb.gB _).setCell hb.gB _).setCell hb.hB _⟩
      case round =>
        clear hb hbel hat v1 v2 b4 z4 f1 f2 HR hG
        obtain ⟨s1, hd1, hb, hsn, hn1, hhd1, hHf, hbel⟩ := hrel
        obtain ⟨b0, b1, b2, b3, b4, b5⟩ := hb.cells
        by_cases hm : R < cnt M s1 (i + 1)
        · obtain ⟨hlt, hHf1, hy, hno⟩ := half_drop hHf hm
          obtain ⟨n1, rfl⟩ : ∃ n1, gk = n1 + 1 := ⟨gk - 1, by omega⟩
          have HY : Hid (0 ≤ M s1 → cnt M (s1 + 1) (i + 1) + 1 = cnt M s1 (i + 1)) := hy
          have HN : Hid (¬ 0 ≤ M s1 → cnt M (s1 + 1) (i + 1) = cnt M s1 (i + 1)) := hno
          have HS : Hid (s1 + (n1 + 1) = i + 1) := hsn
          have hcl := cnt_le (ms := M) (Nat.le_of_lt hlt)
          clear hy hno hsn
          have hat := fun q => at_any R bx g s1 (n1 + 1) hd1 L _ 0 (wr.drew.drewN q) (hb.box.of_block rfl) hp (by omega) (by omega) (by omega) hhd1
          rw [pos_zero hhd1] at hat
          obtain ⟨_, e2⟩ := ring_read (P := P) (M := M) (s := s1) hhd1 hn1 (show 0 < n1 + 1 by omega)
          rw [pos_zero hhd1] at e2
          have r2 := hb.ring.cell (i := hd1 * 2 + 1) (by omega)
          rw [e2] at r2
          clear e2
          rw [Nat.add_zero] at r2
          go_wp2
          go_region
          go_upto_if 92 with (go_at_call 21; refine (hat 0).mono ?_; rintro e w' ⟨rfl, q, rfl⟩)
          go_cut [8] (fun v wd => v = .pointer (some ⟨g, hd1 * 2, none⟩) ∧ Body P M R B wd bx g s1 (n1 + 1) hd1 L (cnt M (s1 + 1) (i + 1)) ∧ Below B w wd)
          case first =>
            have z5 := hb.frozen 5
            by_cases hy : 0 ≤ M s1
            · have RM := body_msgs (cnt M (s1 + 1) (i + 1)) (hb.same (w' := wr.drewN (1 + q)) rfl)
              have e1 := HY.out (by omega)
              have HE : Hid ((cnt M (s1 + 1) (i + 1) : Int) = (cnt M s1 (i + 1) : Int) - 1) := (by omega : (cnt M (s1 + 1) (i + 1) : Int) = (cnt M s1 (i + 1) : Int) - 1)
              clear e1
              go_wp2
              go_meet
              case rel =>
                refine ⟨rfl, ?_, (below_drewN hbel (1 + q)).setCell hb.hB _⟩
                rw [HE.out] at RM
                exact RM
            · have HE := HN.out (by omega)
              have HE' : Hid (cnt M (s1 + 1) (i + 1) = cnt M s1 (i + 1)) := HE
              clear HE
              go_wp2
              go_meet
              case rel =>
                refine ⟨rfl, ?_, below_drewN hbel (1 + q)⟩
                rw [HE'.out]
                exact hb.same rfl
          case rest =>
            clear hb hbel hat r2 b0 b1 b2 b3 b4 b5 hHf hm
            obtain ⟨rfl, hb, hbel⟩ := hcut
            obtain ⟨b0, b1, b2, b3, b4, b5⟩ := hb.cells
            have z1 := hb.frozen 1
            have z3 := hb.frozen 3
            have z4 := hb.frozen 4
            have f1 := hb.ring.frozen (hd1 * 2)
            have f2 := hb.ring.frozen (hd1 * 2 + 1)
            have v1 := hb.ring.cell (i := hd1 * 2) (by omega)
            have v2 := hb.ring.cell (i := hd1 * 2 + 1) (by omega)
            have RD := body_drop hb hn1 hhd1
            have hand := hp.and hd1 1 (by omega)
            rw [pos_mod hhd1 (by omega)] at hand
            have hp1 := pos_lt hhd1 (show 1 ≤ L by omega)
            simp only [Int.natCast_one] at hand
            generalize ringCell P M s1 (n1 + 1) hd1 L (hd1 * 2) = x1 at v1
            generalize ringCell P M s1 (n1 + 1) hd1 L (hd1 * 2 + 1) = x2 at v2
            generalize pos hd1 L 1 = t at *
            have HR : Hid _ := RD
            clear RD
            go_wp2
            go_region
            go_wp2
            go_roundg n1
            case measure => omega
            case rel =>
              have HS' := HS.out
              refine ⟨s1 + 1, t, HR.out.same rfl, by omega, by omega, hp1, hHf1, ?_⟩
              exact (((((hbel.setCell hb.gB _).setCell hb.gB _).setCell hb.hB _).setCell hb.hB _).setCell hb.hB _).drew
        · have RG := half_done hHf hm
          go_wp2
          go_region
          go_wp2
          go_end0
          refine ⟨rfl, ⟨g, s1, gk, hd1, L, hb.same rfl, hsn, hn1, hL, .inr ⟨hp, h64, hhd1, by omega⟩, RG⟩, hbel.drew⟩
end Go.Proofs.Qxb6605552a.Hk
