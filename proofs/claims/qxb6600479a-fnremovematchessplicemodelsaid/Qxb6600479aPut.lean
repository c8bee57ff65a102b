/-
  'put'.
-/
import Derived.Test.Qxb6600479aGrow
import Derived.Lib.SliceRun
import Derived.Lib.LazyBuf
namespace Go.Proofs.Qxb6600479a.Scr
open Go.RowKit

theorem grow_any (B : Nat) (w : World) (bx : Nat) (ca : Option Addr) (cn : Nat) (ma : Option Addr) (mn : Nat) (C : Nat → Int) (S : Nat → ByteArray) (y sz : Nat) (hsz : (y ≤ cn ∧ sz = cn) ∨ (cn < y ∧ sz = y)) (hn : sz ≤ 1048576) (hfit : ma = none ∨ mn = cn) (hl : Ln B w bx ca cn cn ma mn mn 0 C S) :
    Calls Try.prog 29 #[.pointer (some ⟨bx, 0, none⟩), .int .i64 y] w fun e w' => GrowEnd B w bx sz ma (mC cn C) (mS cn S) e w' := by
  rcases hsz with ⟨h1, rfl⟩ | ⟨h1, rfl⟩
  · exact grow_same B w bx ca sz ma mn C S y h1 hn hfit hl
  · exact grow_more B w bx ca cn ma mn C S sz h1 hn hfit hl

/-- k copies of r, wd wide, written from x on. -/
def wrC (D : Nat → Int) (x : Nat) (r : Int) (wd k j : Nat) : Int := if x ≤ j ∧ j < x + wd * k then (if wd = 2 ∧ (j - x) % 2 = 1 then -1 else r) else D j
def wrS (T : Nat → ByteArray) (x y j : Nat) : ByteArray := if x ≤ j ∧ j < y then ByteArray.empty else T j

theorem wrC_zero (D : Nat → Int) (x : Nat) (r : Int) (wd : Nat) : wrC D x r wd 0 = D := by
  funext j
  unfold wrC
  rw [if_neg (by omega)]
theorem wrC_one (D : Nat → Int) (x : Nat) (r : Int) (k : Nat) : updR (wrC D x r 1 k) (x + k) r = wrC D x r 1 (k + 1) := by
  funext j
  unfold updR wrC
  by_cases c1 : j = x + k
  · simp [c1]
  · by_cases c2 : x ≤ j ∧ j < x + 1 * k
    · have c3 : x ≤ j ∧ j < x + 1 * (k + 1) := by omega
      rw [if_neg c1, if_pos c2, if_pos c3]
    · rw [if_neg c1, if_neg c2, if_neg (by omega)]
theorem wrC_two (D : Nat → Int) (x : Nat) (r : Int) (k : Nat) : updR (updR (wrC D x r 2 k) (x + 2 * k) r) (x + 2 * k + 1) (-1) = wrC D x r 2 (k + 1) := by
  funext j
  unfold updR wrC
  by_cases c1 : j = x + 2 * k + 1
  · rw [if_pos c1, if_pos (by omega), if_pos (by omega)]
  · by_cases c2 : j = x + 2 * k
    · rw [if_neg c1, if_pos c2, if_pos (by omega), if_neg (by omega)]
    · by_cases c3 : x ≤ j ∧ j < x + 2 * k
      · have c4 : x ≤ j ∧ j < x + 2 * (k + 1) := by omega
        rw [if_neg c1, if_neg c2, if_pos c3, if_pos c4]
      · rw [if_neg c1, if_neg c2, if_neg c3, if_neg (by omega)]

theorem wrS_zero (T : Nat → ByteArray) (x : Nat) : wrS T x (x + 0) = T := by
  funext j
  unfold wrS
  rw [if_neg (by omega)]

theorem zero9 (w : World) : (zeroValue 9).run Try.prog w = .ok (.string ByteArray.empty) w := by
  obtain ⟨i, h1, h2, _, _⟩ := info_parts Try.info9
  simp [zeroValue, typeInfo, h1, h2]

/-- 'clear' of n marks from x on. -/
theorem clear_run {w : World} {m mc : Nat} {T : Nat → ByteArray} (x n cap : Nat) (hr : w.rowIs m 9 mc (strs T)) (hx : x + n ≤ mc) (hn : 0 < n) :
    (Builtin.clear_ #[23] 0 #[.slice (some ⟨m, x, none⟩) n cap]).run Try.prog w = .ok (.tuple #[]) (w.setCells m x (List.replicate n (.string ByteArray.empty))) :=
  Lib.run_clear_slice (P := Try.prog) w 23 9 0 (.string ByteArray.empty) Try.underlying23 zero9 rfl rfl m x n cap hn (fun j hj => by rw [hr.cell (by omega)]; rfl) (fun j _ => hr.frozen _)

theorem clear_none (w : World) (ao : Option Addr) (cap : Nat) : (Builtin.clear_ #[23] 0 #[.slice ao 0 cap]).run Try.prog w = .ok (.tuple #[]) w := by
  cases ao <;> simp [Builtin.clear_, run_underlying Try.underlying23]

theorem Ln.clear {B : Nat} {w : World} {bx m : Nat} {ca : Option Addr} {cn cc mn mc : Nat} {fill : Int} {C : Nat → Int} {T : Nat → ByteArray} (h : Ln B w bx ca cn cc (some ⟨m, 0, none⟩) mn mc fill C T) (x n : Nat) :
    Ln B (w.setCells m x (List.replicate n (.string ByteArray.empty))) bx ca cn cc (some ⟨m, 0, none⟩) mn mc fill C (wrS T x (x + n)) := by
  refine ⟨h.hB, Go.rowIs_setCells_other (Ne.symm (h.apart.2.1 m rfl)) _ _ _ h.box, ?_, ?_, h.apart⟩
  · rcases h.cells with h1 | ⟨g, e, h1, h2, h3⟩
    · exact .inl h1
    · exact .inr ⟨g, e, h1, h2, Go.rowIs_setCells_other (h.apart.2.2 g m e rfl) _ _ _ h3⟩
  · rcases h.marks with ⟨h1, _⟩ | ⟨g, e, h1, h2, h3⟩
    · cases h1
    · cases e
      refine .inr ⟨m, rfl, h1, h2, (Go.rowIs_setCells _ x _ _ h3).congr fun j _ => ?_⟩
      unfold strs wrS
      simp only [List.length_replicate]
      split
      · rename_i hc
        simp [show j - x < n by omega]
      · rfl

/-- How 'put' ends. -/
def PutEnd (B : Nat) (w : World) (bx sz : Nat) (ma : Option Addr) (fill : Int) (C : Nat → Int) (S : Nat → ByteArray) (e : Ending) (w' : World) : Prop :=
  ∃ ca cc ma' mn mc, e = .returned (.tuple #[]) ∧ Ln B w' bx ca sz cc ma' mn mc fill C S ∧ (ma' = none ↔ ma = none) ∧ (ma' = none ∨ mn = sz) ∧ Below B w w'

def putFill (x y sz : Nat) (r : Int) : Int := if x = 0 ∧ y = sz then r else 0

set_option maxRecDepth 100000 in
set_option maxHeartbeats 1000000 in
theorem put_one (B : Nat) (w : World) (bx : Nat) (ca : Option Addr) (cn : Nat) (ma : Option Addr) (mn : Nat) (fill : Int) (C : Nat → Int) (S : Nat → ByteArray) (x n sz : Nat) (r : Int) (hx : x ≤ 65536) (hn : n ≤ 65536) (hcn : cn ≤ 262144) (hsz : (x + n ≤ cn ∧ sz = cn) ∨ (cn < x + n ∧ sz = x + n)) (hfit : ma = none ∨ mn = cn) (hl : Ln B w bx ca cn cn ma mn mn fill C S) :
    Calls Try.prog 26 #[.pointer (some ⟨bx, 0, none⟩), .int .i64 x, .int .i32 r, .int .i64 1, .int .i64 n] w fun e w' => PutEnd B w bx sz ma (putFill x (x + n) sz r) (wrC (mC cn (cutC C cn x (x + n))) x r 1 n) (wrS (mS cn (cutS C S cn x (x + n))) x (x + n)) e w' := by
  have hcut := cut_any B w bx ca cn cn ma mn mn fill C S x (x + n) (by omega) (by omega) (by omega) hfit hl
  have hgr := fun w1 (h : Ln B w1 bx ca cn cn ma mn mn 0 (cutC C cn x (x + n)) (cutS C S cn x (x + n))) => grow_any B w1 bx ca cn ma mn _ _ (x + n) sz hsz (by omega) hfit h
  have hle : x + n ≤ sz := by omega
  have hszl : sz ≤ 262144 := by omega
  generalize cutC C cn x (x + n) = C1 at *
  generalize cutS C S cn x (x + n) = S1 at *
  generalize mC cn C1 = D at *
  generalize mS cn S1 = T at *
  rw [show ((x + n : Nat) : Int) = (x : Int) + (n : Int) by omega] at hcut
  simp only [show ((x + n : Nat) : Int) = (x : Int) + (n : Int) by omega] at hgr
  have HG : Hid (∀ w1, Ln B w1 bx ca cn cn ma mn mn 0 C1 S1 → Calls Try.prog 29 #[.pointer (some ⟨bx, 0, none⟩), .int .i64 ((x : Int) + (n : Int))] w1 fun e w' => GrowEnd B w1 bx sz ma D T e w') := hgr
  clear hl hgr hsz hfit
  go_enter Try.func26, Try.ntmps26
  go_wp2_with (first | (go_at_call 28; refine hcut.mono ?_; rintro e w1 ⟨rfl, l1, hb1⟩) | (go_at_call 29; refine (HG.out _ l1).mono ?_; rintro e w2 ⟨ca2, cc2, ma2, mn2, mc2, rfl, l2, hm2, hf2, hb2⟩))
  have hb12 := hb1.trans hb2
  clear hcut HG hb1 hb2 l1
  go_loopw [11] (fun sl wr => ∃ k : Nat, k ≤ n ∧ sl = .int .i64 ((x : Int) + (k : Int)) ∧ Ln B wr bx ca2 sz cc2 ma2 mn2 mc2 0 (wrC D x r 1 k) T ∧ Below B w wr) (fun sl _ => x + n - (intOf sl).toNat)
  case atStart => exact ⟨0, Nat.zero_le _, by simp, by rw [wrC_zero]; exact l2, hb12⟩
  case round =>
  clear l2 hb12
  obtain ⟨k, hk, rfl, hl, hbe⟩ := hrel
  by_cases hlt : k < n
  · obtain ⟨b0, _, _⟩ := hl.facts
    have hbx := hl.bel
    obtain ⟨g, rfl, hg, hcc, hr⟩ := hl.cells.pos (show 0 < sz by omega)
    have v := hr.cell (i := x + k) (by omega)
    have z := hr.frozen (x + k)
    have hgl := hr.lt
    unfold runes at v
    have hl2 := hl.setRune (x + k) r
    rw [wrC_one] at hl2
    have hbe2 := hbe.setCell (p := ⟨g, x + k, none⟩) hg (.int .i32 r)
    clear hl hr hbe
    generalize wrC D x r 1 k (x + k) = cv at *
    go_wp2
    go_roundw
    case rel => exact ⟨k + 1, by omega, by go_num, hl2, hbe2⟩
    case measure => simp [intOf]; omega
  · obtain ⟨b0, b1, b2⟩ := hl.facts
    have hbx := hl.bel
    have hne := fun w => run_neq_slice_nil_any (P := Try.prog) w 23 9 ma2 mn2 mc2 0 0 Try.underlying23
    obtain rfl : n = k := by omega
    have hl' := hl
    have hbe' := hbe
    have HL : Hid (Ln B wr bx ca2 sz cc2 ma2 mn2 mc2 0 (wrC D x r 1 n) T) := hl'
    have HB : Hid (Below B w wr) := hbe'
    clear hl hbe hl' hbe'
    go_upto_if 51 with fail
    go_cut [] (fun wc => Ln B wc bx ca2 sz cc2 ma2 mn2 mc2 0 (wrC D x r 1 n) (wrS T x (x + n)) ∧ Below B w wc)
    case first =>
      have hl := HL.out
      have hbe := HB.out
      clear HL HB
      rcases hl.marks with ⟨rfl, rfl, rfl⟩ | ⟨m, rfl, hm, hmc, hr⟩
      · clear hm2 hf2
        go_wp2
        go_meet
        case rel => exact ⟨⟨hl.hB, hl.box, hl.cells, .inl ⟨rfl, rfl, rfl⟩, hl.apart⟩, hbe⟩
      · have hmn : mn2 = sz := by
          rcases hf2 with h | h
          · cases h
          · exact h
        subst hmn
        have hml := hr.lt
        clear hm2 hf2
        by_cases hn0 : n = 0
        · subst hn0
          have hcl := clear_none
          go_wp2
          all_goals go_meet
          all_goals exact ⟨by rw [wrS_zero]; exact hl, hbe⟩
        · have hcx : x < mc2 := by omega
          have hcl := clear_run x n (mc2 - x) hr (by omega) (by omega)
          have hl2 := hl.clear x n
          have hbe2 := Go.below_setCells hm (List.replicate n (.string ByteArray.empty)) x wr hbe
          generalize wr.setCells m x (List.replicate n (.string ByteArray.empty)) = wn at *
          clear hl hbe hr
          go_wp2
          go_meet
          case rel => exact ⟨hl2, hbe2⟩
    case rest =>
      clear b0 b1 b2 hne HL HB
      obtain ⟨hl, hbe⟩ := hcut
      obtain ⟨b0, b1, b2⟩ := hl.facts
      have hbx := hl.bel
      have z2 := hl.box.frozen 2
      have hlf := hl.setFill r
      have hbf := hbe.setCell (p := ⟨bx, 2, none⟩) hl.hB (.int .i32 r)
      by_cases hx0 : x = 0
      · subst hx0
        by_cases hs0 : n = sz
        · subst hs0
          have hend : ∀ wz, Ln B wz bx ca2 n cc2 ma2 mn2 mc2 r (wrC D 0 r 1 n) (wrS T 0 (0 + n)) → Below B w wz → PutEnd B w bx n ma (putFill 0 (0 + n) n r) (wrC D 0 r 1 n) (wrS T 0 (0 + n)) (.returned (.tuple #[])) wz :=
            fun wz h1 h2 => ⟨_, _, _, _, _, rfl, by unfold putFill; rw [if_pos (by omega)]; exact h1, hm2, hf2, h2⟩
          have HE : Hid _ := hend
          clear hl hbe hend
          go_wp2
          go_end0
          exact HE.out _ hlf hbf
        · have hne : ((n : Int) == (sz : Int)) = false := by simp; omega
          have hend : PutEnd B w bx sz ma (putFill 0 (0 + n) sz r) (wrC D 0 r 1 n) (wrS T 0 (0 + n)) (.returned (.tuple #[])) wc := ⟨_, _, _, _, _, rfl, by unfold putFill; rw [if_neg (by omega)]; exact hl, hm2, hf2, hbe⟩
          clear hl hbe hlf hbf
          go_wp2
          go_end0
          exact hend
      · have hne : ((x : Int) == 0) = false := by simp; omega
        have hend : PutEnd B w bx sz ma (putFill x (x + n) sz r) (wrC D x r 1 n) (wrS T x (x + n)) (.returned (.tuple #[])) wc := ⟨_, _, _, _, _, rfl, by unfold putFill; rw [if_neg (by omega)]; exact hl, hm2, hf2, hbe⟩
        clear hl hbe hlf hbf
        go_wp2
        go_end0
        exact hend
end Go.Proofs.Qxb6600479a.Scr
