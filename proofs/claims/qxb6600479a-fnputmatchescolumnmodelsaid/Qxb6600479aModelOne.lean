/-
  'scrB1PutModel', width 1.
-/
import Derived.Test.Qxb6600479aModel
namespace Go.Proofs.Qxb6600479a.Scr
open Go.RowKit

set_option maxRecDepth 100000 in
set_option maxHeartbeats 2000000 in
theorem putModel_one (a1 : Option Addr) (cn c1 : Nat) (a2 : Option Addr) (mn c2 : Nat) (C : Nat → Int) (S : Nat → ByteArray) (w : World) (x n y sz : Nat) (r : Int) (hx : x ≤ 65536) (hn : n ≤ 65536) (hcn : cn ≤ 262144) (hy : y = x + 1 * n) (hsz : (y ≤ cn ∧ sz = cn) ∨ (cn < y ∧ sz = y)) (hfit : a2 = none ∨ mn = cn) (hs1 : Seen w a1 cn (runes C)) (hs2 : Seen w a2 mn (strs S)) (cx cy : Bool) (hcx : hit C cn x = cx) (hcy : hit C cn y = cy) (MC : Nat → Int) (MS : Nat → ByteArray) (mf : Int) (hMC : IsC cx cy C cn x y r 1 MC) (hMS : IsS cx cy S cn x y MS) (hmf : mf = modFill x y cn r) :
    Calls Try.prog 15 #[.slice a1 cn c1, .slice a2 mn c2, .int .i64 x, .int .i32 r, .int .i64 1, .int .i64 n] w fun e w' => ModEnd w sz a2 mf MC MS e w' := by
  have hyl : y ≤ 262144 := by omega
  have hszl : sz ≤ 262144 := by omega
  have hsl : y ≤ sz ∧ cn ≤ sz := by omega
  have HSZ : Hid ((y ≤ cn ∧ sz = cn) ∨ (cn < y ∧ sz = y)) := hsz
  have HY : Hid (y = x + 1 * n) := hy
  have HFIT : Hid (a2 = none ∨ mn = cn) := hfit
  have HS1 : Hid (Seen w a1 cn (runes C)) := hs1
  have HS2 : Hid (Seen w a2 mn (strs S)) := hs2
  have hmk1 := run_make_row' (P := Try.prog) 22 21 (.int .i32 0) 4 Try.underlying22 Try.info21 rfl .i64 .i64 sz (by omega) (by omega)
  have hmk2 := run_make_row' (P := Try.prog) 23 9 (.string ByteArray.empty) 16 Try.underlying23 Try.info9 rfl .i64 .i64 sz (by omega) (by omega)
  have hne := fun w => run_neq_slice_nil_any (P := Try.prog) w 23 9 a2 mn c2 0 0 Try.underlying23
  have HMC : Hid (IsC cx cy C cn x y r 1 MC) := hMC
  have HMS : Hid (IsS cx cy S cn x y MS) := hMS
  have HCX : Hid (hit C cn x = cx) := hcx
  have HCY : Hid (hit C cn y = cy) := hcy
  have HX : Hid (mf = modFill x y cn r) := hmf
  clear hsz hy hfit hs1 hs2 hMC hMS hcx hcy hmf
  go_enter Try.func15, Try.ntmps15
  go_upto_region 2 with fail
  go_cut [16] (fun v wc => v = .int .i64 (y : Int) ∧ w = wc)
  case first =>
    go_wp2
    go_meet
    case rel => exact ⟨by have := HY.out; congr 1; omega, rfl⟩
  case rest =>
  obtain ⟨rfl, rfl⟩ := hcut
  clear hn
  go_upto_if 35 with fail
  go_cut [17] (fun v wc => v = .int .i64 (sz : Int) ∧ w = wc)
  case first =>
    have hz := HSZ.out
    by_cases h : y ≤ cn
    · obtain rfl : sz = cn := by omega
      clear hz
      go_wp2
      go_meet
      case rel => exact ⟨rfl, rfl⟩
    · obtain rfl : sz = y := by omega
      clear hz
      go_wp2
      go_meet
      case rel => exact ⟨rfl, rfl⟩
  case rest =>
  obtain ⟨rfl, rfl⟩ := hcut
  go_upto_region 6 with fail
  go_cut [18] (fun v wc => v = .bool cx ∧ w = wc)
  case first =>
    have hcx' := HCX.out
    by_cases h0 : x = 0
    · subst h0
      go_wp2
      go_meet
      case rel => exact ⟨by rw [← hcx']; simp [hit], rfl⟩
    · have h0' : 0 < x := by omega
      by_cases h1 : x < cn
      · obtain ⟨b, off, rfl, hb, hc⟩ := hit_run HS1.out h1
        cases h2 : (C x == -1) with
        | true =>
          have hh : hit C cn x = true := by simp [hit]; simp at h2; exact ⟨h0', h1, h2⟩
          clear h0
          clear HCX HCY
          generalize C x = cv at *
          go_wp2
          go_meet
          case rel => exact ⟨by rw [← hh, hcx'], rfl⟩
        | false =>
          have hh : hit C cn x = false := by simp [hit]; simp at h2; exact fun _ _ => h2
          clear h0
          clear HCX HCY
          generalize C x = cv at *
          go_wp2
          go_meet
          case rel => exact ⟨by rw [← hh, hcx'], rfl⟩
      · have hh : hit C cn x = false := by simp [hit]; omega
        clear h0
        go_wp2
        go_meet
        case rel => exact ⟨by rw [← hh, hcx'], rfl⟩
  case rest =>
  obtain ⟨rfl, rfl⟩ := hcut
  go_upto_region 7 with fail
  go_cut [19] (fun v wc => v = .bool cy ∧ w = wc)
  case first =>
    have hcy' := HCY.out
    by_cases h0 : y = 0
    · have hh : hit C cn y = false := by simp [hit]; omega
      subst h0
      go_wp2
      go_meet
      case rel => exact ⟨by rw [← hh, hcy'], rfl⟩
    · have h0' : 0 < y := by omega
      by_cases h1 : y < cn
      · obtain ⟨b, off, rfl, hb, hc⟩ := hit_run HS1.out h1
        cases h2 : (C y == -1) with
        | true =>
          have hh : hit C cn y = true := by simp [hit]; simp at h2; exact ⟨h0', h1, h2⟩
          clear h0
          clear HCX HCY
          generalize C y = cv at *
          go_wp2
          go_meet
          case rel => exact ⟨by rw [← hh, hcy'], rfl⟩
        | false =>
          have hh : hit C cn y = false := by simp [hit]; simp at h2; exact fun _ _ => h2
          clear h0
          clear HCX HCY
          generalize C y = cv at *
          go_wp2
          go_meet
          case rel => exact ⟨by rw [← hh, hcy'], rfl⟩
      · have hh : hit C cn y = false := by simp [hit]; omega
        clear h0
        go_wp2
        go_meet
        case rel => exact ⟨by rw [← hh, hcy'], rfl⟩
  case rest =>
  obtain ⟨rfl, rfl⟩ := hcut
  go_upto_if 68 with fail
  go_cut [21] (fun v wc => ∃ om omn, v = .slice om omn omn ∧ Outs w.heap.size wc w.heap.size om omn sz 0 MC MS ∧ (om = none ↔ a2 = none) ∧ Below w.heap.size w wc)
  case first =>
    have hb1 : Below w.heap.size w (w.alloc (.cells (madeCells #[.int .i32 0] sz) 21)) := (Below.refl _ _).alloc (Nat.le_refl _) _
    have hr1 : (w.alloc (.cells (madeCells #[.int .i32 0] sz) 21)).rowIs w.heap.size 21 sz (part 0 (runes MC) (.int .i32 0)) := (World.rowIs_made w _ sz 21).congr fun _ _ => by simp [part]
    cases a2 with
    | none =>
      go_wp2
      go_meet
      case rel => exact ⟨none, 0, rfl, ⟨Nat.le_refl _, hr1, .inl ⟨rfl, rfl, rfl⟩, fun m e => (by cases e), .inl rfl⟩, by simp, hb1⟩
    | some xa =>
      have hr2 := World.rowIs_made (w.alloc (.cells (madeCells #[.int .i32 0] sz) 21)) (.string ByteArray.empty) sz 9
      simp only [World.size_alloc] at hr2
      have hr1' := hr1.alloc (.cells (madeCells #[.string ByteArray.empty] sz) 9)
      have hb2 := hb1.alloc (by simp) (.cells (madeCells #[.string ByteArray.empty] sz) 9)
      have HR : Hid (Outs w.heap.size ((w.alloc (.cells (madeCells #[.int .i32 0] sz) 21)).alloc (.cells (madeCells #[.string ByteArray.empty] sz) 9)) w.heap.size (some ⟨w.heap.size + 1, 0, none⟩) sz sz 0 MC MS) := ⟨Nat.le_refl _, hr1', .inr ⟨_, rfl, by omega, Nat.le_refl _, hr2.congr fun _ _ => by simp [part]⟩, fun m e => (by cases e; omega), .inr rfl⟩
      clear hr1 hr1' hr2
      go_wp2
      go_meet
      case rel => exact ⟨_, _, rfl, HR.out, by simp, hb2⟩
  case rest =>
  obtain ⟨om, omn, rfl, hO, hom, hbe⟩ := hcut
  clear hmk1 hmk2
  go_wp2
  go_loopw [22] (fun sl wr => ∃ k : Nat, k ≤ sz ∧ sl = .int .i64 k ∧ Outs w.heap.size wr w.heap.size om omn sz k MC MS ∧ Below w.heap.size w wr) (fun sl _ => sz - (intOf sl).toNat)
  case atStart => exact ⟨0, Nat.zero_le _, rfl, hO, hbe⟩
  case round =>
  clear hO hbe
  obtain ⟨k, hk, rfl, hO, hbe⟩ := hrel
  by_cases hlt : k < sz
  · go_upto_region 15 with fail
    go_cut [83] (fun v wc => v = .bool (decide (x ≤ k ∧ k < y)) ∧ wr = wc)
    case first =>
      clear hO hbe
      by_cases h1 : x ≤ k
      · by_cases h2 : k < y
        · have hd : decide (x ≤ k ∧ k < y) = true := by simp; omega
          go_wp2
          go_meet
          case rel => exact ⟨by rw [hd], rfl⟩
        · have hd : decide (x ≤ k ∧ k < y) = false := by simp; omega
          go_wp2
          go_meet
          case rel => exact ⟨by rw [hd], rfl⟩
      · have hd : decide (x ≤ k ∧ k < y) = false := by simp; omega
        go_wp2
        go_meet
        case rel => exact ⟨by rw [hd], rfl⟩
    case rest =>
    obtain ⟨rfl, rfl⟩ := hcut
    by_cases hin : x ≤ k ∧ k < y
    · have hd : decide (x ≤ k ∧ k < y) = true := by simp; omega
      rw [hd]
      clear hd
      have e1 := (HMC.out k).1 hin
      have e2 := (HMS.out k).1 hin
      have v := hO.row.cell hlt
      have z := hO.row.frozen k
      have hgl := hO.row.lt
      simp only [part, Nat.lt_irrefl, if_false] at v
      simp at e1
      have hO2 := hO.rune e1 (.inr e2)
      have hbe2 := hO.below hbe k (.int .i32 r)
      clear hO hbe HMS HMC
      go_wp2
      go_roundw
      case rel => exact ⟨k + 1, by omega, by go_num, hO2, hbe2⟩
      case measure => simp [intOf]; omega
    · have hd : decide (x ≤ k ∧ k < y) = false := by simp; omega
      rw [hd]
      clear hd
      by_cases hold : cn ≤ k
      · have hO2 := hO.keep ((HMC.out k).2.1 hin hold) ((HMS.out k).2.1 hin hold)
        clear hO
        go_wp2
        go_roundw
        case rel => exact ⟨k + 1, by omega, by go_num, hO2, hbe⟩
        case measure => simp [intOf]; omega
      · have q3 := (HMC.out k).2.2.1 hin
        have q4 := (HMC.out k).2.2.2 hin hold
        have r3 := (HMS.out k).2.2.1 hin
        have r4 := (HMS.out k).2.2.2 hin hold
        have Q3 : Hid (er cx cy x y k = true → MC k = 0) := q3
        have Q4 : Hid (er cx cy x y k = false → MC k = C k) := q4
        have R3 : Hid (er cx cy x y k = true → MS k = ByteArray.empty) := r3
        have R4 : Hid (er cx cy x y k = false → MS k = S k) := r4
        clear q3 q4 r3 r4
        go_upto_region 20 with fail
        go_cut [23] (fun v wc => v = .bool (er cx cy x y k) ∧ wr = wc)
        case first =>
          clear hO hbe Q3 Q4 R3 R4 HMS HMC
          have hER : er cx cy x y k = ((cx && ((k : Int) == (x : Int) - 1 || (k : Int) == (x : Int))) || (cy && ((k : Int) == (y : Int) - 1 || (k : Int) == (y : Int)))) := rfl
          generalize er cx cy x y k = ev at *
          generalize hb1 : ((k : Int) == (x : Int) - 1) = b1 at hER
          generalize hb2 : ((k : Int) == (x : Int)) = b2 at hER
          generalize hb3 : ((k : Int) == (y : Int) - 1) = b3 at hER
          generalize hb4 : ((k : Int) == (y : Int)) = b4 at hER
          clear hin
          cases cx
          · cases cy
            · go_wp2
              go_meet
              case rel => exact ⟨by rw [hER]; rfl, rfl⟩
            · cases b3
              · cases b4
                all_goals (go_wp2; go_meet; exact ⟨by rw [hER]; rfl, rfl⟩)
              · go_wp2
                go_meet
                case rel => exact ⟨by rw [hER]; rfl, rfl⟩
          · cases b1
            · cases b2
              · cases cy
                · go_wp2
                  go_meet
                  case rel => exact ⟨by rw [hER]; rfl, rfl⟩
                · cases b3
                  · cases b4
                    all_goals (go_wp2; go_meet; exact ⟨by rw [hER]; rfl, rfl⟩)
                  · go_wp2
                    go_meet
                    case rel => exact ⟨by rw [hER]; rfl, rfl⟩
              · go_wp2
                go_meet
                case rel => exact ⟨by rw [hER]; rfl, rfl⟩
            · go_wp2
              go_meet
              case rel => exact ⟨by rw [hER]; rfl, rfl⟩
        case rest =>
        obtain ⟨rfl, rfl⟩ := hcut
        cases he : er cx cy x y k with
        | true =>
          have hO2 := hO.keep (Q3.out he) (R3.out he)
          clear hO he Q3 Q4 R3 R4 HMS HMC
          go_wp2
          go_roundw
          case rel => exact ⟨k + 1, by omega, by go_num, hO2, hbe⟩
          case measure => simp [intOf]; omega
        | false =>
          have e1 := Q4.out he
          have e2 := R4.out he
          clear he Q3 Q4 R3 R4 HMS HMC
          obtain ⟨b, off, rfl, hb, hc⟩ := (HS1.out.below hbe).at (show k < cn by omega)
          unfold runes at hc
          have v := hO.row.cell hlt
          have z := hO.row.frozen k
          have hgl := hO.row.lt
          simp only [part, Nat.lt_irrefl, if_false] at v
          cases a2 with
          | none =>
            obtain rfl : om = none := hom.2 rfl
            have hO2 := hO.rune e1 (.inl rfl)
            have hbe2 := hO.below hbe k (.int .i32 (C k))
            clear hO hbe HS1 HS2 HFIT
            generalize C k = ck at *
            go_wp2
            go_roundw
            case rel => exact ⟨k + 1, by omega, by go_num, hO2, hbe2⟩
            case measure => simp [intOf]; omega
          | some xa =>
            have hmn : mn = cn := by
              rcases HFIT.out with h | h
              · cases h
              · exact h
            subst hmn
            obtain ⟨b2, off2, ex, hb2, hc2⟩ := (HS2.out.below hbe).at (show k < mn by omega)
            obtain rfl := Option.some.inj ex
            have hb2w : b2 < w.heap.size := by
              obtain ⟨_, _, ex', hb', _⟩ := HS2.out.at (show k < mn by omega)
              cases ex'
              exact hb'
            have hb2n : b2 ≠ w.heap.size := by omega
            unfold strs at hc2
            have homn : om ≠ none := fun h => by have := hom.1 h; cases this
            rcases hO.marks with ⟨h1, _⟩ | ⟨m, rfl, hmB, _, hmr⟩
            · exact absurd h1 homn
            · have hosz : omn = sz := by
                rcases hO.len with h | h
                · cases h
                · exact h
              subst hosz
              have v2 := hmr.cell hlt
              have z2 := hmr.frozen k
              have hml := hmr.lt
              have hmg := hO.apart m rfl
              simp only [part, Nat.lt_irrefl, if_false] at v2
              have hO2 := hO.both e1 e2
              have hbe2 := (hO.below hbe k (.int .i32 (C k))).setCell (p := ⟨m, k, none⟩) hmB (.string (S k))
              clear hO hbe HS1 HS2 HFIT hmr homn
              generalize C k = ck at *
              generalize S k = sk at *
              go_wp2
              go_roundw
              case rel => exact ⟨k + 1, by omega, by go_num, hO2, hbe2⟩
              case measure => simp [intOf]; omega
  · obtain rfl : k = sz := by omega
    have hres : ∀ f, ModEnd w k a2 f MC MS (.returned (.tuple #[.slice (some ⟨w.heap.size, 0, none⟩) k k, .slice om omn omn, .int .i32 f])) wr := by
      intro f
      refine ⟨_, _, _, _, _, rfl, .inr ⟨_, 0, rfl, hO.row.lt, fun j hj => by rw [Nat.zero_add]; exact (part_done hO.row).cell hj⟩, ?_, hom, ?_, hO.len, hbe⟩
      · rcases hO.marks with ⟨_, rfl, _⟩ | ⟨m, rfl, _, _, hmr⟩
        · exact .inl rfl
        · refine Seen.congr (Own.seen hO.marks) fun j hj => ?_
          rcases hO.len with h | h
          · cases h
          · unfold part; rw [if_pos (by omega)]
      · intro h
        rcases hO.marks with ⟨_, h1, _⟩ | ⟨m, h1, _⟩
        · exact h1
        · rw [h] at h1; cases h1
    have HR : Hid (∀ f, ModEnd w k a2 f MC MS (.returned (.tuple #[.slice (some ⟨w.heap.size, 0, none⟩) k k, .slice om omn omn, .int .i32 f])) wr) := hres
    clear hres hO hbe HMS HMC
    by_cases hx0 : x = 0
    · by_cases hcy : cn ≤ y
      · obtain rfl : mf = r := by have := HX.out; unfold modFill at this; rw [if_pos ⟨hx0, hcy⟩] at this; exact this
        subst hx0
        go_wp2
        go_ret3
        exact HR.out _
      · obtain rfl : mf = 0 := by have := HX.out; unfold modFill at this; rw [if_neg (by omega)] at this; exact this
        subst hx0
        go_wp2
        go_ret3
        exact HR.out _
    · obtain rfl : mf = 0 := by have := HX.out; unfold modFill at this; rw [if_neg (by omega)] at this; exact this
      have hne : ((x : Int) == 0) = false := by simp; omega
      go_wp2
      go_ret3
      exact HR.out _
end Go.Proofs.Qxb6600479a.Scr
