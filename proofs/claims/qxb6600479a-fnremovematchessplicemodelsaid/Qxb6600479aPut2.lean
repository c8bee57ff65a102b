/-
  'put' OF CHARACTERS TWO CELLS WIDE.
-/
import Derived.Test.Qxb6600479aPut
namespace Go.Proofs.Qxb6600479a.Scr
open Go.RowKit

theorem wrS_zero2 (T : Nat → ByteArray) (x : Nat) : wrS T x (x + 2 * 0) = T := wrS_zero T x

set_option maxRecDepth 100000 in
set_option maxHeartbeats 1000000 in
theorem put_two (B : Nat) (w : World) (bx : Nat) (ca : Option Addr) (cn : Nat) (ma : Option Addr) (mn : Nat) (fill : Int) (C : Nat → Int) (S : Nat → ByteArray) (x n sz : Nat) (r : Int) (hx : x ≤ 65536) (hn : n ≤ 65536) (hcn : cn ≤ 262144) (hsz : (x + 2 * n ≤ cn ∧ sz = cn) ∨ (cn < x + 2 * n ∧ sz = x + 2 * n)) (hfit : ma = none ∨ mn = cn) (hl : Ln B w bx ca cn cn ma mn mn fill C S) :
    Calls Try.prog 26 #[.pointer (some ⟨bx, 0, none⟩), .int .i64 x, .int .i32 r, .int .i64 2, .int .i64 n] w fun e w' => PutEnd B w bx sz ma (putFill x (x + 2 * n) sz r) (wrC (mC cn (cutC C cn x (x + 2 * n))) x r 2 n) (wrS (mS cn (cutS C S cn x (x + 2 * n))) x (x + 2 * n)) e w' := by
  have hcut := cut_any B w bx ca cn cn ma mn mn fill C S x (x + 2 * n) (by omega) (by omega) (by omega) hfit hl
  have hgr := fun w1 (h : Ln B w1 bx ca cn cn ma mn mn 0 (cutC C cn x (x + 2 * n)) (cutS C S cn x (x + 2 * n))) => grow_any B w1 bx ca cn ma mn _ _ (x + 2 * n) sz hsz (by omega) hfit h
  have hle : x + 2 * n ≤ sz := by omega
  have hszl : sz ≤ 262144 := by omega
  generalize cutC C cn x (x + 2 * n) = C1 at *
  generalize cutS C S cn x (x + 2 * n) = S1 at *
  generalize mC cn C1 = D at *
  generalize mS cn S1 = T at *
  rw [show ((x + 2 * n : Nat) : Int) = (x : Int) + 2 * (n : Int) by omega] at hcut
  simp only [show ((x + 2 * n : Nat) : Int) = (x : Int) + 2 * (n : Int) by omega] at hgr
  have HG : Hid (∀ w1, Ln B w1 bx ca cn cn ma mn mn 0 C1 S1 → Calls Try.prog 29 #[.pointer (some ⟨bx, 0, none⟩), .int .i64 ((x : Int) + 2 * (n : Int))] w1 fun e w' => GrowEnd B w1 bx sz ma D T e w') := hgr
  clear hl hgr hsz hfit
  go_enter Try.func26, Try.ntmps26
  go_wp2_with (first | (go_at_call 28; refine hcut.mono ?_; rintro e w1 ⟨rfl, l1, hb1⟩) | (go_at_call 29; refine (HG.out _ l1).mono ?_; rintro e w2 ⟨ca2, cc2, ma2, mn2, mc2, rfl, l2, hm2, hf2, hb2⟩))
  have hb12 := hb1.trans hb2
  clear hcut HG hb1 hb2 l1
  go_loopw [11] (fun sl wr => ∃ k : Nat, k ≤ n ∧ sl = .int .i64 ((x : Int) + 2 * (k : Int)) ∧ Ln B wr bx ca2 sz cc2 ma2 mn2 mc2 0 (wrC D x r 2 k) T ∧ Below B w wr) (fun sl _ => x + 2 * n - (intOf sl).toNat)
  case atStart => exact ⟨0, Nat.zero_le _, by simp, by rw [wrC_zero]; exact l2, hb12⟩
  case round =>
  clear l2 hb12
  obtain ⟨k, hk, rfl, hl, hbe⟩ := hrel
  by_cases hlt : k < n
  · obtain ⟨b0, _, _⟩ := hl.facts
    have hbx := hl.bel
    obtain ⟨g, rfl, hg, hcc, hr⟩ := hl.cells.pos (show 0 < sz by omega)
    have v := hr.cell (i := x + 2 * k) (by omega)
    have v' := hr.cell (i := x + 2 * k + 1) (by omega)
    have z := hr.frozen (x + 2 * k)
    have z' := hr.frozen (x + 2 * k + 1)
    have hgl := hr.lt
    have hgb := hl.apart.1 g rfl
    unfold runes at v v'
    have hl2 := (hl.setRune (x + 2 * k) r).setRune (x + 2 * k + 1) (-1)
    rw [wrC_two] at hl2
    have hbe2 := (hbe.setCell (p := ⟨g, x + 2 * k, none⟩) hg (.int .i32 r)).setCell (p := ⟨g, x + 2 * k + 1, none⟩) hg (.int .i32 (-1))
    clear hl hr hbe
    generalize wrC D x r 2 k (x + 2 * k) = cv at *
    generalize wrC D x r 2 k (x + 2 * k + 1) = cv' at *
    go_wp2
    go_roundw
    case rel => exact ⟨k + 1, by omega, by go_num, hl2, hbe2⟩
    case measure => simp [intOf]; omega
  · obtain ⟨b0, b1, b2⟩ := hl.facts
    have hbx := hl.bel
    have hne := fun w => run_neq_slice_nil_any (P := Try.prog) w 23 9 ma2 mn2 mc2 0 0 Try.underlying23
    obtain rfl : n = k := by omega
    have hl' := hl
    have hbe' := hbe
    have HL : Hid (Ln B wr bx ca2 sz cc2 ma2 mn2 mc2 0 (wrC D x r 2 n) T) := hl'
    have HB : Hid (Below B w wr) := hbe'
    clear hl hbe hl' hbe'
    go_upto_if 51 with fail
    go_cut [] (fun wc => Ln B wc bx ca2 sz cc2 ma2 mn2 mc2 0 (wrC D x r 2 n) (wrS T x (x + 2 * n)) ∧ Below B w wc)
    case first =>
      have hl := HL.out
      have hbe := HB.out
      clear HL HB
      rcases hl.marks with ⟨rfl, rfl, rfl⟩ | ⟨m, rfl, hm, hmc, hr⟩
      · clear hm2 hf2
        go_wp2
        go_meet
        case rel => exact ⟨⟨hl.hB, hl.box, hl.cells, .inl ⟨rfl, rfl, rfl⟩, hl.apart⟩, hbe⟩
      · have hmn : mn2 = sz := by
          rcases hf2 with h | h
          · cases h
          · exact h
        subst hmn
        have hml := hr.lt
        clear hm2 hf2
        by_cases hn0 : n = 0
        · subst hn0
          have hcl := clear_none
          go_wp2
          all_goals go_meet
          all_goals exact ⟨by rw [wrS_zero2]; exact hl, hbe⟩
        · have hcx : x < mc2 := by omega
          have hcl := clear_run x (2 * n) (mc2 - x) hr (by omega) (by omega)
          have hl2 := hl.clear x (2 * n)
          have hbe2 := Go.below_setCells hm (List.replicate (2 * n) (.string ByteArray.empty)) x wr hbe
          generalize wr.setCells m x (List.replicate (2 * n) (.string ByteArray.empty)) = wn at *
          clear hl hbe hr
          go_wp2
          go_meet
          case rel => exact ⟨hl2, hbe2⟩
    case rest =>
      clear b0 b1 b2 hne HL HB
      obtain ⟨hl, hbe⟩ := hcut
      obtain ⟨b0, b1, b2⟩ := hl.facts
      have hbx := hl.bel
      have z2 := hl.box.frozen 2
      have hlf := hl.setFill r
      have hbf := hbe.setCell (p := ⟨bx, 2, none⟩) hl.hB (.int .i32 r)
      by_cases hx0 : x = 0
      · subst hx0
        by_cases hs0 : 2 * n = sz
        · subst hs0
          have hend : ∀ wz, Ln B wz bx ca2 (2 * n) cc2 ma2 mn2 mc2 r (wrC D 0 r 2 n) (wrS T 0 (0 + 2 * n)) → Below B w wz → PutEnd B w bx (2 * n) ma (putFill 0 (0 + 2 * n) (2 * n) r) (wrC D 0 r 2 n) (wrS T 0 (0 + 2 * n)) (.returned (.tuple #[])) wz :=
            fun wz h1 h2 => ⟨_, _, _, _, _, rfl, by unfold putFill; rw [if_pos (by omega)]; exact h1, hm2, hf2, h2⟩
          have HE : Hid _ := hend
          clear hl hbe hend
          go_wp2
          go_end0
          exact HE.out _ hlf hbf
        · have hne : (2 * (n : Int) == (sz : Int)) = false := by simp; omega
          have hend : PutEnd B w bx sz ma (putFill 0 (0 + 2 * n) sz r) (wrC D 0 r 2 n) (wrS T 0 (0 + 2 * n)) (.returned (.tuple #[])) wc := ⟨_, _, _, _, _, rfl, by unfold putFill; rw [if_neg (by omega)]; exact hl, hm2, hf2, hbe⟩
          clear hl hbe hlf hbf
          go_wp2
          go_end0
          exact hend
      · have hne : ((x : Int) == 0) = false := by simp; omega
        have hend : PutEnd B w bx sz ma (putFill x (x + 2 * n) sz r) (wrC D x r 2 n) (wrS T x (x + 2 * n)) (.returned (.tuple #[])) wc := ⟨_, _, _, _, _, rfl, by unfold putFill; rw [if_neg (by omega)]; exact hl, hm2, hf2, hbe⟩
        clear hl hbe hlf hbf
        go_wp2
        go_end0
        exact hend
end Go.Proofs.Qxb6600479a.Scr
