/-
  'scrB1RemoveModel'.
-/
import Derived.Test.Qxb6600479aModel
namespace Go.Proofs.Qxb6600479a.Scr
open Go.RowKit

/-- The old column that column k of the answer comes from. -/
def sr (x n k : Nat) : Nat := if x ≤ k then k + n else k
def rmC (C : Nat → Int) (cn x n k : Nat) : Int := if er (hit C cn x) (hit C cn (x + n)) x (x + n) (sr x n k) = true then 0 else C (sr x n k)
def rmS (C : Nat → Int) (S : Nat → ByteArray) (cn x n k : Nat) : ByteArray := if er (hit C cn x) (hit C cn (x + n)) x (x + n) (sr x n k) = true then ByteArray.empty else S (sr x n k)
def IsRC (cx cy : Bool) (C : Nat → Int) (x n y : Nat) (MC : Nat → Int) : Prop := ∀ k, (er cx cy x y (sr x n k) = true → MC k = 0) ∧ (er cx cy x y (sr x n k) = false → MC k = C (sr x n k))
def IsRS (cx cy : Bool) (S : Nat → ByteArray) (x n y : Nat) (MS : Nat → ByteArray) : Prop := ∀ k, (er cx cy x y (sr x n k) = true → MS k = ByteArray.empty) ∧ (er cx cy x y (sr x n k) = false → MS k = S (sr x n k))
theorem isRC (C : Nat → Int) (cn x n : Nat) : IsRC (hit C cn x) (hit C cn (x + n)) C x n (x + n) (rmC C cn x n) := by
  intro k
  unfold rmC
  exact ⟨fun h => by rw [if_pos h], fun h => by rw [h]; rfl⟩
theorem isRS (C : Nat → Int) (S : Nat → ByteArray) (cn x n : Nat) : IsRS (hit C cn x) (hit C cn (x + n)) S x n (x + n) (rmS C S cn x n) := by
  intro k
  unfold rmS
  exact ⟨fun h => by rw [if_pos h], fun h => by rw [h]; rfl⟩

set_option maxRecDepth 100000 in
set_option maxHeartbeats 2000000 in
theorem remModel_near (a1 : Option Addr) (cn c1 : Nat) (a2 : Option Addr) (mn c2 : Nat) (C : Nat → Int) (S : Nat → ByteArray) (fill : Int) (w : World) (x n y kp sz : Nat) (hx : x < cn) (hn : n ≤ 65536) (hcn : cn ≤ 262144) (hy : y = x + n) (hkp : kp = cn - y) (hsz : sz = x + kp) (hfit : a2 = none ∨ mn = cn) (hs1 : Seen w a1 cn (runes C)) (hs2 : Seen w a2 mn (strs S)) (cx cy : Bool) (hcx : hit C cn x = cx) (hcy : hit C cn y = cy) (MC : Nat → Int) (MS : Nat → ByteArray) (hMC : IsRC cx cy C x n y MC) (hMS : IsRS cx cy S x n y MS) :
    Calls Try.prog 23 #[.slice a1 cn c1, .slice a2 mn c2, .int .i32 fill, .int .i64 x, .int .i64 n] w fun e w' => ModEnd w sz a2 0 MC MS e w' := by
  have hyl : y ≤ 1048576 := by omega
  have hszl : sz ≤ 262144 := by omega
  have hkl : kp ≤ 262144 := by omega
  have HSZ : Hid (sz = x + kp) := hsz
  have HY : Hid (y = x + n) := hy
  have HKP : Hid (kp = cn - y) := hkp
  have HFIT : Hid (a2 = none ∨ mn = cn) := hfit
  have HS1 : Hid (Seen w a1 cn (runes C)) := hs1
  have HS2 : Hid (Seen w a2 mn (strs S)) := hs2
  have hmk1 := run_make_row' (P := Try.prog) 22 21 (.int .i32 0) 4 Try.underlying22 Try.info21 rfl .i64 .i64 sz (by omega) (by omega)
  have hmk2 := run_make_row' (P := Try.prog) 23 9 (.string ByteArray.empty) 16 Try.underlying23 Try.info9 rfl .i64 .i64 sz (by omega) (by omega)
  have hne := fun w => run_neq_slice_nil_any (P := Try.prog) w 23 9 a2 mn c2 0 0 Try.underlying23
  have HMC : Hid (IsRC cx cy C x n y MC) := hMC
  have HMS : Hid (IsRS cx cy S x n y MS) := hMS
  have HCX : Hid (hit C cn x = cx) := hcx
  have HCY : Hid (hit C cn y = cy) := hcy
  clear hsz hy hkp hfit hs1 hs2 hMC hMS hcx hcy
  go_enter Try.func23, Try.ntmps23
  go_upto_region 4 with fail
  go_cut [14] (fun v wc => v = .int .i64 (y : Int) ∧ w = wc)
  case first =>
    go_wp2
    go_meet
    case rel => exact ⟨by have := HY.out; congr 1; omega, rfl⟩
  case rest =>
  obtain ⟨rfl, rfl⟩ := hcut
  go_upto_region 5 with fail
  go_cut [15] (fun v wc => v = .bool cx ∧ w = wc)
  case first =>
    have hcx' := HCX.out
    obtain ⟨b, off, rfl, hb, hc⟩ := hit_run HS1.out hx
    by_cases h0 : x = 0
    · subst h0
      clear hc
      go_wp2
      go_meet
      case rel => exact ⟨by rw [← hcx']; simp [hit], rfl⟩
    · have h0' : 0 < x := by omega
      cases h2 : (C x == -1) with
      | true =>
        have hh : hit C cn x = true := by simp [hit]; simp at h2; exact ⟨h0', hx, h2⟩
        clear h0 HCX HCY
        generalize C x = cv at *
        go_wp2
        go_meet
        case rel => exact ⟨by rw [← hh, hcx'], rfl⟩
      | false =>
        have hh : hit C cn x = false := by simp [hit]; simp at h2; exact fun _ _ => h2
        clear h0 HCX HCY
        generalize C x = cv at *
        go_wp2
        go_meet
        case rel => exact ⟨by rw [← hh, hcx'], rfl⟩
  case rest =>
  obtain ⟨rfl, rfl⟩ := hcut
  go_upto_region 6 with fail
  go_cut [16] (fun v wc => v = .bool cy ∧ w = wc)
  case first =>
    have hcy' := HCY.out
    by_cases h0 : y = 0
    · have hh : hit C cn y = false := by simp [hit]; omega
      subst h0
      go_wp2
      go_meet
      case rel => exact ⟨by rw [← hh, hcy'], rfl⟩
    · have h0' : 0 < y := by omega
      by_cases h1 : y < cn
      · obtain ⟨b, off, rfl, hb, hc⟩ := hit_run HS1.out h1
        cases h2 : (C y == -1) with
        | true =>
          have hh : hit C cn y = true := by simp [hit]; simp at h2; exact ⟨h0', h1, h2⟩
          clear h0 HCX HCY
          generalize C y = cv at *
          go_wp2
          go_meet
          case rel => exact ⟨by rw [← hh, hcy'], rfl⟩
        | false =>
          have hh : hit C cn y = false := by simp [hit]; simp at h2; exact fun _ _ => h2
          clear h0 HCX HCY
          generalize C y = cv at *
          go_wp2
          go_meet
          case rel => exact ⟨by rw [← hh, hcy'], rfl⟩
      · have hh : hit C cn y = false := by simp [hit]; omega
        clear h0
        go_wp2
        go_meet
        case rel => exact ⟨by rw [← hh, hcy'], rfl⟩
  case rest =>
  obtain ⟨rfl, rfl⟩ := hcut
  go_upto_if 64 with fail
  go_cut [17] (fun v wc => v = .int .i64 (kp : Int) ∧ w = wc)
  case first =>
    by_cases h : y ≤ cn
    · go_wp2
      go_meet
      case rel => exact ⟨by have := HKP.out; congr 1; omega, rfl⟩
    · go_wp2
      go_meet
      case rel => exact ⟨by have := HKP.out; congr 1; omega, rfl⟩
  case rest =>
  obtain ⟨rfl, rfl⟩ := hcut
  go_upto_region 10 with fail
  go_cut [18] (fun v wc => v = .int .i64 (sz : Int) ∧ w = wc)
  case first =>
    go_wp2
    go_meet
    case rel => exact ⟨by have := HSZ.out; congr 1; omega, rfl⟩
  case rest =>
  obtain ⟨rfl, rfl⟩ := hcut
  go_upto_if 71 with fail
  go_cut [20] (fun v wc => ∃ om omn, v = .slice om omn omn ∧ Outs w.heap.size wc w.heap.size om omn sz 0 MC MS ∧ (om = none ↔ a2 = none) ∧ Below w.heap.size w wc)
  case first =>
    have hb1 : Below w.heap.size w (w.alloc (.cells (madeCells #[.int .i32 0] sz) 21)) := (Below.refl _ _).alloc (Nat.le_refl _) _
    have hr1 : (w.alloc (.cells (madeCells #[.int .i32 0] sz) 21)).rowIs w.heap.size 21 sz (part 0 (runes MC) (.int .i32 0)) := (World.rowIs_made w _ sz 21).congr fun _ _ => by simp [part]
    cases a2 with
    | none =>
      go_wp2
      go_meet
      case rel => exact ⟨none, 0, rfl, ⟨Nat.le_refl _, hr1, .inl ⟨rfl, rfl, rfl⟩, fun m e => (by cases e), .inl rfl⟩, by simp, hb1⟩
    | some xa =>
      have hr2 := World.rowIs_made (w.alloc (.cells (madeCells #[.int .i32 0] sz) 21)) (.string ByteArray.empty) sz 9
      simp only [World.size_alloc] at hr2
      have hr1' := hr1.alloc (.cells (madeCells #[.string ByteArray.empty] sz) 9)
      have hb2 := hb1.alloc (by simp) (.cells (madeCells #[.string ByteArray.empty] sz) 9)
      have HR : Hid (Outs w.heap.size ((w.alloc (.cells (madeCells #[.int .i32 0] sz) 21)).alloc (.cells (madeCells #[.string ByteArray.empty] sz) 9)) w.heap.size (some ⟨w.heap.size + 1, 0, none⟩) sz sz 0 MC MS) := ⟨Nat.le_refl _, hr1', .inr ⟨_, rfl, by omega, Nat.le_refl _, hr2.congr fun _ _ => by simp [part]⟩, fun m e => (by cases e; omega), .inr rfl⟩
      clear hr1 hr1' hr2
      go_wp2
      go_meet
      case rel => exact ⟨_, _, rfl, HR.out, by simp, hb2⟩
  case rest =>
  obtain ⟨om, omn, rfl, hO, hom, hbe⟩ := hcut
  clear hmk1 hmk2
  go_wp2
  go_loopw [21] (fun sl wr => ∃ k : Nat, k ≤ sz ∧ sl = .int .i64 k ∧ Outs w.heap.size wr w.heap.size om omn sz k MC MS ∧ Below w.heap.size w wr) (fun sl _ => sz - (intOf sl).toNat)
  case atStart => exact ⟨0, Nat.zero_le _, rfl, hO, hbe⟩
  case round =>
  clear hO hbe
  obtain ⟨k, hk, rfl, hO, hbe⟩ := hrel
  by_cases hlt : k < sz
  · obtain ⟨s, hsr⟩ : ∃ s, s = sr x n k := ⟨_, rfl⟩
    have hscn : s < cn := by
      have g1 := HSZ.out
      have g2 := HKP.out
      have g3 := HY.out
      rw [hsr]
      unfold sr
      split <;> omega
    have Q3 : Hid (er cx cy x y s = true → MC k = 0) := by have := (HMC.out k).1; rw [← hsr] at this; exact this
    have Q4 : Hid (er cx cy x y s = false → MC k = C s) := by have := (HMC.out k).2; rw [← hsr] at this; exact this
    have R3 : Hid (er cx cy x y s = true → MS k = ByteArray.empty) := by have := (HMS.out k).1; rw [← hsr] at this; exact this
    have R4 : Hid (er cx cy x y s = false → MS k = S s) := by have := (HMS.out k).2; rw [← hsr] at this; exact this
    have HSR : Hid (s = sr x n k) := hsr
    clear hsr HMC HMS
    go_upto_if 82 with fail
    go_cut [22] (fun v wc => v = .int .i64 (s : Int) ∧ wr = wc)
    case first =>
      clear hO hbe Q3 Q4 R3 R4
      have hsr := HSR.out
      unfold sr at hsr
      by_cases h1 : x ≤ k
      · rw [if_pos h1] at hsr
        have HS : Hid (s = k + n) := hsr
        clear hsr
        go_wp2
        go_meet
        case rel => exact ⟨by have := HS.out; congr 1; omega, rfl⟩
      · rw [if_neg h1] at hsr
        have HS : Hid (s = k) := hsr
        clear hsr
        go_wp2
        go_meet
        case rel => exact ⟨by have := HS.out; congr 1; omega, rfl⟩
    case rest =>
    obtain ⟨rfl, rfl⟩ := hcut
    clear HSR
    go_upto_region 21 with fail
    go_cut [23] (fun v wc => v = .bool (er cx cy x y s) ∧ wr = wc)
    case first =>
      clear hO hbe Q3 Q4 R3 R4
      have hER : er cx cy x y s = ((cx && ((s : Int) == (x : Int) - 1 || (s : Int) == (x : Int))) || (cy && ((s : Int) == (y : Int) - 1 || (s : Int) == (y : Int)))) := rfl
      generalize er cx cy x y s = ev at *
      generalize hb1 : ((s : Int) == (x : Int) - 1) = b1 at hER
      generalize hb2 : ((s : Int) == (x : Int)) = b2 at hER
      generalize hb3 : ((s : Int) == (y : Int) - 1) = b3 at hER
      generalize hb4 : ((s : Int) == (y : Int)) = b4 at hER
      cases cx
      · cases cy
        · go_wp2
          go_meet
          case rel => exact ⟨by rw [hER]; rfl, rfl⟩
        · cases b3
          · cases b4
            all_goals (go_wp2; go_meet; exact ⟨by rw [hER]; rfl, rfl⟩)
          · go_wp2
            go_meet
            case rel => exact ⟨by rw [hER]; rfl, rfl⟩
      · cases b1
        · cases b2
          · cases cy
            · go_wp2
              go_meet
              case rel => exact ⟨by rw [hER]; rfl, rfl⟩
            · cases b3
              · cases b4
                all_goals (go_wp2; go_meet; exact ⟨by rw [hER]; rfl, rfl⟩)
              · go_wp2
                go_meet
                case rel => exact ⟨by rw [hER]; rfl, rfl⟩
          · go_wp2
            go_meet
            case rel => exact ⟨by rw [hER]; rfl, rfl⟩
        · go_wp2
          go_meet
          case rel => exact ⟨by rw [hER]; rfl, rfl⟩
    case rest =>
    obtain ⟨rfl, rfl⟩ := hcut
    cases he : er cx cy x y s with
    | true =>
      have hO2 := hO.keep (Q3.out he) (R3.out he)
      clear hO he Q3 Q4 R3 R4
      go_wp2
      go_roundw
      case rel => exact ⟨k + 1, by omega, by go_num, hO2, hbe⟩
      case measure => simp [intOf]; omega
    | false =>
      have e1 := Q4.out he
      have e2 := R4.out he
      clear he Q3 Q4 R3 R4
      obtain ⟨b, off, rfl, hb, hc⟩ := (HS1.out.below hbe).at hscn
      unfold runes at hc
      have v := hO.row.cell hlt
      have z := hO.row.frozen k
      have hgl := hO.row.lt
      simp only [part, Nat.lt_irrefl, if_false] at v
      cases a2 with
      | none =>
        obtain rfl : om = none := hom.2 rfl
        have hO2 := hO.rune e1 (.inl rfl)
        have hbe2 := hO.below hbe k (.int .i32 (C s))
        clear hO hbe HS1 HS2 HFIT
        generalize C s = ck at *
        go_wp2
        go_roundw
        case rel => exact ⟨k + 1, by omega, by go_num, hO2, hbe2⟩
        case measure => simp [intOf]; omega
      | some xa =>
        have hmn : mn = cn := by
          rcases HFIT.out with h | h
          · cases h
          · exact h
        subst hmn
        obtain ⟨b2, off2, ex, hb2, hc2⟩ := (HS2.out.below hbe).at hscn
        obtain rfl := Option.some.inj ex
        have hb2w : b2 < w.heap.size := by
          obtain ⟨_, _, ex', hb', _⟩ := HS2.out.at hscn
          cases ex'
          exact hb'
        have hb2n : b2 ≠ w.heap.size := by omega
        unfold strs at hc2
        have homn : om ≠ none := fun h => by have := hom.1 h; cases this
        rcases hO.marks with ⟨h1, _⟩ | ⟨m, rfl, hmB, _, hmr⟩
        · exact absurd h1 homn
        · have hosz : omn = sz := by
            rcases hO.len with h | h
            · cases h
            · exact h
          subst hosz
          have v2 := hmr.cell hlt
          have z2 := hmr.frozen k
          have hml := hmr.lt
          have hmg := hO.apart m rfl
          simp only [part, Nat.lt_irrefl, if_false] at v2
          have hO2 := hO.both e1 e2
          have hbe2 := (hO.below hbe k (.int .i32 (C s))).setCell (p := ⟨m, k, none⟩) hmB (.string (S s))
          clear hO hbe HS1 HS2 HFIT hmr homn
          generalize C s = ck at *
          generalize S s = sk at *
          go_wp2
          go_roundw
          case rel => exact ⟨k + 1, by omega, by go_num, hO2, hbe2⟩
          case measure => simp [intOf]; omega
  · obtain rfl : k = sz := by omega
    have hres : ModEnd w k a2 0 MC MS (.returned (.tuple #[.slice (some ⟨w.heap.size, 0, none⟩) k k, .slice om omn omn, .int .i32 0])) wr := by
      refine ⟨_, _, _, _, _, rfl, .inr ⟨_, 0, rfl, hO.row.lt, fun j hj => by rw [Nat.zero_add]; exact (part_done hO.row).cell hj⟩, ?_, hom, ?_, hO.len, hbe⟩
      · rcases hO.marks with ⟨_, rfl, _⟩ | ⟨m, rfl, _, _, hmr⟩
        · exact .inl rfl
        · refine Seen.congr (Own.seen hO.marks) fun j hj => ?_
          rcases hO.len with h | h
          · cases h
          · unfold part; rw [if_pos (by omega)]
      · intro h
        rcases hO.marks with ⟨_, h1, _⟩ | ⟨m, h1, _⟩
        · exact h1
        · rw [h] at h1; cases h1
    have HR : Hid (ModEnd w k a2 0 MC MS (.returned (.tuple #[.slice (some ⟨w.heap.size, 0, none⟩) k k, .slice om omn omn, .int .i32 0])) wr) := hres
    clear hres hO hbe HMS HMC
    go_wp2
    go_ret3
    exact HR.out
end Go.Proofs.Qxb6600479a.Scr
