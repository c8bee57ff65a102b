/-
  THE LAW's OWN WALK, its main road.
-/
import Derived.Test.Qxb6605552aHkLaw
namespace Go.Proofs.Qxb6605552a.Hk
open Go.RowKit

/-- The window's marks behind j rounds. -/
def Win (w4 wr : World) (hd L j : Nat) : Prop := wr.rowIs w4.heap.size 4 L (fun t => .bool (decide (dist hd L t < j))) ∧ Below w4.heap.size w4 wr

theorem win_start (w4 : World) (hd L : Nat) : Win w4 (w4.alloc (.cells (madeCells #[.bool false] L) 4)) hd L 0 :=
  ⟨(World.rowIs_made w4 (.bool false) L 4).congr (fun i _ => by simp), (Below.refl _ _).alloc (Nat.le_refl _) _⟩

theorem win_step {w4 wr : World} {hd L j : Nat} (h : Win w4 wr hd L j) (hh : hd < L) (hj : j < L) (q : Nat) : Win w4 ((wr.setCell ⟨w4.heap.size, pos hd L j, none⟩ (.bool true)).drewN q) hd L (j + 1) := by
  refine ⟨((h.1.set _ _).congr fun t ht => ?_).of_block rfl, below_drewN (h.2.setCell (Nat.le_refl _) _) q⟩
  by_cases e : t = pos hd L j
  · rw [if_pos e, e, dist_pos hh hj]; simp
  · rw [if_neg e]
    have : dist hd L t ≠ j := fun e' => e (by rw [← e', pos_dist hh ht])
    have : (dist hd L t < j + 1) ↔ (dist hd L t < j) := by omega
    simp [this]

theorem read_at {P : Nat → Value} {M : Nat → Int} {w w' : World} {s n hd L : Nat} (h : Read P M w w' s n hd L L) {t : Nat} (ht : t < L) :
    w'.cell? ⟨w.heap.size, t, none⟩ = some (memAt P M s n hd L t) ∧ w'.cell? ⟨w.heap.size + 1, t, none⟩ = some (payAt P M s n hd L t) := by
  refine ⟨(h.1.cell ht).trans ?_, (h.2.1.cell ht).trans ?_⟩ <;> simp [ht]

theorem at_win {P : Nat → Value} {M : Nat → Int} {s n hd L j : Nat} (hh : hd < L) (hn : n ≤ L) (hj : j < n) : memAt P M s n hd L (pos hd L j) = .int .i32 (M (s + j)) ∧ payAt P M s n hd L (pos hd L j) = P (s + j) :=
  ⟨(ring_read hh hn hj).2, (ring_read hh hn hj).1⟩

theorem out_win {P : Nat → Value} {M : Nat → Int} {s n hd L t : Nat} (h : ¬ dist hd L t < n) : memAt P M s n hd L t = .int .i32 0 ∧ payAt P M s n hd L t = .slice none 0 0 := by
  constructor
  · unfold memAt ringCell
    rw [show (t * 2 + 1) / 2 = t by omega, if_neg h, if_neg (by omega)]
  · unfold payAt ringCell
    rw [show t * 2 / 2 = t by omega, if_neg h, if_pos (by omega)]

set_option maxRecDepth 100000 in
set_option maxHeartbeats 4000000 in
theorem law_main (R : Nat) (a1 : Option Addr) (T c1 : Nat) (M : Nat → Int) (a2 : Option Addr) (n2 c2 : Nat) (ls : Nat → Nat) (w : World) (hls : ∀ i, i < n2 → ls i ≤ maxLen)
    (hm : RawInts w a1 T M) (hr : RawRows w a2 n2 ls) (hT : T ≤ 65536) (hn : n2 ≤ 65536) (h3 : 8 * T + 24 * n2 ≤ 1048576) (hR : R ≤ 9223372036854775807) :
    Calls Try.prog 5 #[.int .i64 R, .slice a1 T c1, .slice a2 n2 c2] w fun e w' => e = .returned (.bool true) ∧ Below w.heap.size w w' := by
  have hsz := sized_any R a1 T c1 a2 n2 c2 ls w (by unfold maxLen; omega) (by unfold maxLen; omega) hls hr
  clear hls
  go_enter Try.func5, Try.ntmps5
  go_wp2_with (go_at_call 17; refine hsz.mono ?_; rintro e w' ⟨b, rfl, hb, rfl⟩; cases b)
  · go_ret
    exact ⟨rfl, Below.refl _ _⟩
  obtain ⟨_, _, hl⟩ := hb trivial
  have HL : Hid (∀ i, i < n2 → ls i ≤ 1048576) := hl
  clear hl hb hsz
  go_loop [7, 8] (fun zs zi => ∃ (s : Int) (k : Nat), 0 ≤ s ∧ s ≤ 1048576 ∧ k ≤ n2 ∧ zs = .int .i64 s ∧ zi = .int .i64 k) (fun _ zi => n2 - (intOf zi).toNat)
  case atStart => exact ⟨_, 0, by omega, by omega, Nat.zero_le _, rfl, rfl⟩
  case round =>
  obtain ⟨zs, k, hs0, hs1, hk, rfl, rfl⟩ := hrel
  by_cases hlt : k < n2
  · obtain ⟨b, off, rfl, hb, V, hc, hV⟩ := hr.at hlt
    obtain ⟨va, vc, rfl⟩ := hV.shape
    have hlk := HL.out k hlt
    clear hr hV
    generalize ls k = lk at *
    by_cases h5 : zs + lk ≤ 1048576
    · go_wp2
      go_round
      case rel => exact ⟨_, k + 1, by omega, h5, by omega, rfl, by go_num⟩
      case measure => simp [intOf]; omega
    · go_wp2
      go_ret
      exact ⟨rfl, Below.refl _ _⟩
  go_wp2
  clear hs0 hs1 hk hlt
  go_loop [9] (fun zi => ∃ (k : Nat), k ≤ T ∧ zi = .int .i64 k ∧ ∀ i, i < k → -2147483648 ≤ M i ∧ M i ≤ 2147483647) (fun zi => T - (intOf zi).toNat)
  case atStart => exact ⟨0, Nat.zero_le _, rfl, fun i hi => by omega⟩
  case round =>
  obtain ⟨k, hk, rfl, hMr⟩ := hrel
  have HM : Hid (∀ i, i < k → -2147483648 ≤ M i ∧ M i ≤ 2147483647) := hMr
  clear hMr
  by_cases hlt : k < T
  · obtain ⟨b, off, rfl, hc⟩ := hm.at hlt
    clear hm hr
    by_cases h4 : M k < -2147483648
    · go_wp2
      go_ret
      exact ⟨rfl, Below.refl _ _⟩
    · by_cases h5 : 2147483647 < M k
      · go_wp2
        go_ret
        exact ⟨rfl, Below.refl _ _⟩
      · go_wp2
        go_round
        case rel =>
          refine ⟨k + 1, by omega, by go_num, fun i hi => ?_⟩
          by_cases e : i = k
          · rw [e]; omega
          · exact HM.out i (by omega)
        case measure => simp [intOf]; omega
  have hkT : T = k := by omega
  subst hkT
  clear hlt hk
  have hpa := pays_any a2 n2 c2 ls w (by omega) HL.out hr
  clear hr HL
  go_wp2_with (first | (go_at_call 10; refine hpa.mono ?_; rintro e w1 ⟨a3, c3, P, rfl, hPy, hbw1⟩) | (go_at_call 12; refine (make_any P M R _).mono ?_; rintro e w2 ⟨rfl, hB2, hbw2⟩))
  clear hpa
  have HMr : Hid (∀ i, i < T → -2147483648 ≤ M i ∧ M i ≤ 2147483647) := HM.out
  have HPs : Hid (∀ j, ∃ a l c, P j = .slice a l c) := fun j => (hPy.2.1 j).shape
  have hm1 := hm.below hbw1
  go_loopw [11] (fun sl wr => ∃ j : Nat, j ≤ T ∧ sl = .int .i64 j ∧ Hist P M R w1.heap.size wr (w1.heap.size + 1) j ∧ Below w1.heap.size w1 wr) (fun sl _ => T - (intOf sl).toNat)
  case atStart => exact ⟨0, Nat.zero_le _, rfl, hist_start hB2, hbw2⟩
  case round =>
  clear hB2 hbw2 HM
  obtain ⟨j, hj, rfl, hH, hbr⟩ := hrel
  by_cases hlt : j < T
  · obtain ⟨b, off, rfl, hc⟩ := (hm1.below hbr).at hlt
    obtain ⟨hM0, hM1⟩ := HMr.out j hlt
    obtain ⟨pa, pl, pc, hPj⟩ := HPs.out j
    have hkp := zzkeep_any P M R w1.heap.size (w1.heap.size + 1) j wr hH (by omega) hM0 hM1 pa pl pc hPj HPs.out
    clear hm hm1 hH
    by_cases hjn : j < n2
    · obtain ⟨b2, rfl, hb2, hc2⟩ := (hPy.below hbr).1 j hjn
      rw [hPj] at hc2
      clear hPj hPy
      go_wp2_with (go_at_call 13; refine hkp.mono ?_; rintro e w3 ⟨rfl, hH3, hb3⟩)
      go_roundw
      case rel => exact ⟨j + 1, by omega, by go_num, hH3, hbr.trans hb3⟩
      case measure => simp [intOf]; omega
    · have e0 := hPy.2.2 j (by omega)
      rw [hPj] at e0
      obtain ⟨rfl, rfl, rfl⟩ : pa = none ∧ pl = 0 ∧ pc = 0 := by simpa using e0
      clear hPj hPy e0
      go_wp2_with (go_at_call 13; refine hkp.mono ?_; rintro e w3 ⟨rfl, hH3, hb3⟩)
      go_roundw
      case rel => exact ⟨j + 1, by omega, by go_num, hH3, hbr.trans hb3⟩
      case measure => simp [intOf]; omega
  have hjT : T = j := by omega
  subst hjT
  clear hlt hj
  obtain ⟨w3, ew⟩ : ∃ w3, w3 = wr := ⟨_, rfl⟩
  subst ew
  obtain ⟨g, s, n, hd, L, hB, hsn, hnL, hL, hsh, hG⟩ := hH
  have hfd := fields_any P M R w1.heap.size (w1.heap.size + 1) g s n hd L (cnt M s T) _ hB hL HPs.out
  have HSN : Hid (s + n = T) := hsn
  have HSH : Hid _ := hsh
  clear hsn hsh
  go_upto_block 6 with (go_at_call 14; refine hfd.mono ?_; rintro e w4 ⟨rfl, hRd⟩)
  have hbw4 : Below w1.heap.size w1 w4 := hbr.trans (hRd.2.2.mono hbr.size)
  have hm4 := hm1.below hbw4
  have hP4 := hPy.below hbw4
  have hW4 : Below w.heap.size w w4 := hbw1.trans (hbw4.mono hbw1.size)
  have hsT : s ≤ T := hG.1
  have hcR : cnt M s T ≤ R := hG.2.1
  have hcT := cnt_le (ms := M) hsT
  have HG : Hid (Good M R s T) := hG
  clear hm hm1 hPy hfd hbr hbw1 hbw4 hG hB
  go_cut [21, 22] (fun v21 v22 wd => v21 = .int .i64 s ∧ v22 = .int .i64 (cnt M s T) ∧ w4 = wd)
  case first =>
    go_wp2_with fail
    go_loop [21, 22, 23] (fun v21 v22 v23 => ∃ j : Nat, j ≤ T ∧ v21 = .int .i64 j ∧ v22 = .int .i64 (cnt M j T) ∧ v23 = .int .i64 ((j : Int) - 1) ∧ cnt M j T ≤ R) (fun _ _ v23 => (intOf v23 + 1).toNat)
    case atStart => exact ⟨T, Nat.le_refl _, rfl, by rw [cnt_self]; rfl, rfl, by rw [cnt_self]; omega⟩
    case round =>
      obtain ⟨j, hj, rfl, rfl, rfl, hcj⟩ := hrel
      have hcl := cnt_le (ms := M) hj
      by_cases h0 : j = 0
      · subst h0
        have e := good_one HG.out (show Good M R 0 T from ⟨by omega, hcj, .inl rfl⟩)
        have HE : Hid (s = 0) := e
        clear e hm4 hP4
        go_wp2
        go_meet
        case rel => rw [HE.out]; exact ⟨rfl, rfl, rfl⟩
      · obtain ⟨p, rfl⟩ : ∃ p, j = p + 1 := ⟨j - 1, by omega⟩
        obtain ⟨b, off, rfl, hc⟩ := hm4.at (show p < T by omega)
        obtain ⟨hy, hno⟩ := cnt_down (ms := M) (show p < T by omega)
        have HY : Hid (0 ≤ M p → cnt M p T = cnt M (p + 1) T + 1) := hy
        have HN : Hid (¬ 0 ≤ M p → cnt M p T = cnt M (p + 1) T) := hno
        clear hm4 hP4 hy hno
        by_cases hMp : 0 ≤ M p
        · by_cases hcc : cnt M (p + 1) T < R
          · go_wp2
            go_round
            case rel => exact ⟨p, by omega, by go_num, by rw [HY.out (by omega)]; go_num, rfl, by rw [HY.out (by omega)]; omega⟩
            case measure => simp [intOf]
          · have e := good_one HG.out (show Good M R (p + 1) T from ⟨by omega, hcj, .inr ⟨hMp, by omega⟩⟩)
            have HE : Hid (s = p + 1) := e
            clear e
            go_wp2
            go_meet
            case rel => rw [HE.out]; exact ⟨rfl, rfl, rfl⟩
        · go_wp2
          go_round
          case rel => exact ⟨p, by omega, by go_num, by rw [HN.out (by omega)], rfl, by rw [HN.out (by omega)]; exact hcj⟩
          case measure => simp [intOf]
  case rest =>
  obtain ⟨rfl, rfl, rfl⟩ := hcut
  clear HG
  have hn1 : n ≤ T - s := by have := HSN.out; omega
  have hn2 : T - s ≤ n := by have := HSN.out; omega
  by_cases hT0 : T = 0
  · rcases HSH.out with ⟨hL0, hd0, _⟩ | ⟨_, _, _, h0⟩
    · subst hL0; subst hd0
      clear hRd hm4 hP4
      go_wp2
      go_ret
      exact ⟨rfl, hW4⟩
    · omega
  rcases HSH.out with ⟨_, _, h0⟩ | ⟨hpw, hL64, hhd, _⟩
  · omega
  have hmask : bits .and .i64 (L : Int) ((L : Int) - 1) = 0 := by
    have := hpw.and L 0 (by omega)
    simpa using this
  have hmk := run_make_row' (P := Try.prog) 25 4 (.bool false) 1 Try.underlying25 (show (Try.prog.info? 4).map (fun i => (i.zero, i.size, i.bytes)) = some (some (.bool false), 1, 1) by kernel_rfl) rfl .i64 .i64 L (by omega) (by omega)
  have hT1 : 0 < T := by omega
  clear hT0
  have hbn : ((n : Int) != (T : Int) - (s : Int)) = false := by simp; omega
  go_wp2
  clear hmk hmask hbn
  have hl1 := hRd.2.1.lt
  go_loopw [26] (fun sl wx => ∃ j : Nat, j ≤ n ∧ sl = .int .i64 j ∧ Win w4 wx hd L j) (fun sl _ => n - (intOf sl).toNat)
  case atStart => exact ⟨0, Nat.zero_le _, rfl, win_start _ _ _⟩
  case round =>
  obtain ⟨j, hj, rfl, hWn⟩ := hrel
  by_cases hlt : j < n
  · have hand := hpw.and hd j (by omega)
    rw [pos_mod hhd (by omega)] at hand
    have hpl := pos_lt hhd (show j ≤ L by omega)
    obtain ⟨g1, g2⟩ := read_at hRd hpl
    obtain ⟨x1, x2⟩ := at_win (P := P) (M := M) (s := s) hhd hnL hlt
    obtain ⟨pa, pl, pc, hPj⟩ := HPs.out (s + j)
    rw [x1] at g1
    rw [x2, hPj] at g2
    have g1' := (hWn.2.cell (p := ⟨w3.heap.size, pos hd L j, none⟩) (by show w3.heap.size < w4.heap.size; omega)).trans g1
    have g2' := (hWn.2.cell (p := ⟨w3.heap.size + 1, pos hd L j, none⟩) hl1).trans g2
    have hTj : s + j < T := by omega
    obtain ⟨b, off, rfl, hc⟩ := hm4.at hTj
    have hbl := cell_lt hc
    have hc' := (hWn.2.cell (p := ⟨b, off + (s + j), none⟩) hbl).trans hc
    obtain ⟨hM0, hM1⟩ := HMr.out (s + j) hTj
    have f1 := hWn.1.frozen (pos hd L j)
    have v1 := hWn.1.cell hpl
    have hBy : Bytes 0 (wr.setCell ⟨w4.heap.size, pos hd L j, none⟩ (.bool true)) (P (s + j)) := (hP4.2.1 (s + j)).below (hWn.2.setCell (Nat.le_refl _) _)
    rw [hPj] at hBy
    have hsm := fun q => same_any 0 _ ((wr.setCell ⟨w4.heap.size, pos hd L j, none⟩ (.bool true)).drewN q) (hBy.below (below_drewN (Below.refl _ _) q))
    have RW := fun q => win_step hWn hhd (show j < L by omega) q
    generalize pos hd L j = t at *
    generalize (decide (dist hd L t < j)) = bt at v1
    by_cases hjn : s + j < n2
    · obtain ⟨b2, rfl, hb2, hc2⟩ := hP4.1 (s + j) hjn
      have hc2' := (hWn.2.cell (p := ⟨b2, s + j, none⟩) hb2).trans hc2
      rw [hPj] at hc2'
      have hbl' : b < w4.heap.size := hbl
      generalize M (s + j) = mj at *
      have HRW : Hid _ := RW
      have HSM : Hid _ := hsm
      clear hPj hP4 hm4 g1 g2 x1 x2 hc hc2 hBy hRd RW hsm hWn HMr HPs hbl
      go_wp2
      go_quiet ((go_at_call 16; exact Calls.quiet_of (HSM.out _)))
      go_wp2
      go_roundw
      case rel => exact ⟨j + 1, by omega, by go_num, HRW.out _⟩
      case measure => simp [intOf]; omega
    · have e0 := hP4.2.2 (s + j) (by omega)
      rw [hPj] at e0
      obtain ⟨rfl, rfl, rfl⟩ : pa = none ∧ pl = 0 ∧ pc = 0 := by simpa using e0
      have hbl' : b < w4.heap.size := hbl
      generalize M (s + j) = mj at *
      have HRW : Hid _ := RW
      have HSM : Hid _ := hsm
      clear hPj hP4 hm4 g1 g2 x1 x2 hc hBy hRd RW hsm hWn HMr HPs hbl e0
      go_wp2
      go_quiet ((go_at_call 16; exact Calls.quiet_of (HSM.out _)))
      go_wp2
      go_roundw
      case rel => exact ⟨j + 1, by omega, by go_num, HRW.out _⟩
      case measure => simp [intOf]; omega
  have hjn : n = j := by omega
  subst hjn
  clear hlt hj hm4 hP4 HPs HMr
  go_wp2
  have hW5 : Below w.heap.size w wr := hW4.trans (hWn.2.mono hW4.size)
  go_loop [30] (fun sl => ∃ t : Nat, t ≤ L ∧ sl = .int .i64 t) (fun sl => L - (intOf sl).toNat)
  case atStart => exact ⟨0, Nat.zero_le _, rfl⟩
  case round =>
  obtain ⟨t, ht, rfl⟩ := hrel
  by_cases hlt : t < L
  · obtain ⟨g1, g2⟩ := read_at hRd hlt
    have g1' := (hWn.2.cell (p := ⟨w3.heap.size, t, none⟩) (by show w3.heap.size < w4.heap.size; omega)).trans g1
    have g2' := (hWn.2.cell (p := ⟨w3.heap.size + 1, t, none⟩) hl1).trans g2
    have v1 := hWn.1.cell hlt
    by_cases hin : dist hd L t < n
    · rw [decide_eq_true hin] at v1
      clear hRd hWn g1 g2 g1' g2'
      go_wp2
      go_round
      case rel => exact ⟨t + 1, by omega, by go_num⟩
      case measure => simp [intOf]; omega
    · rw [decide_eq_false hin] at v1
      obtain ⟨x1, x2⟩ := out_win (P := P) (M := M) (s := s) hin
      rw [x1] at g1'
      rw [x2] at g2'
      have hne := fun w => run_neq_slice_nil_any (P := Try.prog) w 29 5 none 0 0 0 0 Try.underlying29
      clear hRd hWn g1 g2 x1 x2
      go_wp2
      go_round
      case rel => exact ⟨t + 1, by omega, by go_num⟩
      case measure => simp [intOf]; omega
  · clear hRd hWn
    go_wp2
    go_ret
    exact ⟨rfl, hW5⟩
end Go.Proofs.Qxb6605552a.Hk
