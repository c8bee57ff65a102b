/-
  THE LAW 'FnPositionsAndIDsIDsAgreeWithUUIDs'.
-/
import Derived.Test.Qxb6605586aRefUnzip
import Derived.Test.Qxb6605586aIdLaw
import Derived.Deep.RegionWith
namespace Go.Proofs.Qxb6605586a.Sl
open Go.RowKit

theorem zzPosIDs_any (g n c : Nat) (z q : Nat → Int) (w : World) (hn : n ≤ 65536) (hs : w.rowIs g 49 (n * 17) (refc z q)) :
    Calls Try.prog 11 #[.slice (some ⟨g, 0, none⟩) n c] w fun e w' => UnzipRef w n z q e w' := by
  have ht := posIDs_any g n c z q w hn hs
  clear hs
  go_enter Try.func11, Try.ntmps11
  go_wp2_with (go_at_call 23; refine ht.mono ?_; rintro e w' ⟨rfl, h1, h2, h3⟩)
  go_ret2
  exact ⟨rfl, h1, h2, h3⟩

theorem Seen.drewN {w : World} {a : Option Addr} {m : Nat} {f : Nat → Value} (h : Seen w a m f) (r : Nat) : Seen (w.drewN r) a m f := h.below (below_drewN (Below.refl _ _) r)

set_option maxRecDepth 100000 in
set_option maxHeartbeats 400000 in
theorem agreeBytes_any (a1 : Option Addr) (n1 c1 : Nat) (a2 : Option Addr) (n c2 : Nat) (w : World) (h1 : n1 ≤ maxLen) (h2 : n ≤ maxLen) :
    Calls Try.prog 14 #[.slice a1 n1 c1, .slice a2 n c2] w fun e w' => AskEnd w e w' := by
  unfold maxLen at h1 h2
  by_cases g1 : n1 ≤ 1048576
  · by_cases g2 : n ≤ 1048576
    · by_cases g3 : n1 + n ≤ 1048576
      · go_enter Try.func14, Try.ntmps14
        go_wp2
        go_loop [5, 6] (fun zn zi => ∃ (s : Int) (k : Nat), 0 ≤ s ∧ s ≤ 1048576 ∧ k ≤ n ∧ zn = .int .i64 s ∧ zi = .int .i64 k) (fun _ zi => n - (intOf zi).toNat)
        case atStart => exact ⟨_, 0, by omega, by omega, Nat.zero_le _, rfl, rfl⟩
        case round =>
        obtain ⟨s, k, hs0, hsl, hk, rfl, rfl⟩ := hrel
        by_cases hlt : k < n
        · by_cases h5 : s + 16 ≤ 1048576
          · go_wp2
            go_round
            case rel => exact ⟨_, k + 1, by omega, h5, by omega, rfl, by go_num⟩
            case measure => simp [intOf]; omega
          · go_wp2
            go_ret
            exact ⟨_, rfl, rfl⟩
        go_wp2
        go_ret
        exact ⟨_, rfl, rfl⟩
      · go_enter Try.func14, Try.ntmps14
        go_wp2
        go_ret
        exact ⟨_, rfl, rfl⟩
    · go_enter Try.func14, Try.ntmps14
      go_wp2
      go_ret
      exact ⟨_, rfl, rfl⟩
  · go_enter Try.func14, Try.ntmps14
    go_wp2
    go_ret
    exact ⟨_, rfl, rfl⟩

set_option maxRecDepth 100000 in
set_option maxHeartbeats 400000 in
/-- Too much, or of two lengths: nothing is asked. -/
theorem agree_early (a1 : Option Addr) (n1 c1 : Nat) (a2 : Option Addr) (n c2 : Nat) (w : World) (h1 : n1 ≤ maxLen) (h2 : n ≤ maxLen) (hbig : ¬ (n1 ≤ 65536 ∧ n ≤ 65536 ∧ 8 * n1 + 16 * n ≤ 1048576 ∧ n1 = n)) :
    Calls Try.prog 4 #[.slice a1 n1 c1, .slice a2 n c2] w fun e w' => e = .returned (.bool true) ∧ Below w.heap.size w w' := by
  have hby := agreeBytes_any a1 n1 c1 a2 n c2 w h1 h2
  unfold maxLen at h1 h2
  by_cases g1 : n1 ≤ 65536
  · by_cases g2 : n ≤ 65536
    · by_cases g3 : 8 * n1 + 16 * n ≤ 1048576
      · have hne : ((n1 : Int) != (n : Int)) = true := by simp; omega
        clear hbig
        go_enter Try.func4, Try.ntmps4
        go_wp2_with (go_at_call 14; refine hby.mono ?_; rintro e w' ⟨b, rfl, rfl⟩; cases b)
        all_goals (go_ret; exact ⟨rfl, Below.refl _ _⟩)
      · clear hbig
        go_enter Try.func4, Try.ntmps4
        go_wp2_with (go_at_call 14; refine hby.mono ?_; rintro e w' ⟨b, rfl, rfl⟩; cases b)
        all_goals (go_ret; exact ⟨rfl, Below.refl _ _⟩)
    · clear hbig
      go_enter Try.func4, Try.ntmps4
      go_wp2_with (go_at_call 14; refine hby.mono ?_; rintro e w' ⟨b, rfl, rfl⟩; cases b)
      all_goals (go_ret; exact ⟨rfl, Below.refl _ _⟩)
  · clear hbig
    go_enter Try.func4, Try.ntmps4
    go_wp2_with (go_at_call 14; refine hby.mono ?_; rintro e w' ⟨b, rfl, rfl⟩; cases b)
    all_goals (go_ret; exact ⟨rfl, Below.refl _ _⟩)

set_option maxRecDepth 100000 in
set_option maxHeartbeats 800000 in
theorem agree_main (a1 : Option Addr) (n c1 : Nat) (a2 : Option Addr) (c2 : Nat) (z q : Nat → Int) (w : World) (hn : n ≤ 65536) (hm : 8 * n + 16 * n ≤ 1048576) (h01 : a1 = none → n = 0) (h02 : a2 = none → n = 0) (hs1 : Seen w a1 n (i64s q)) (hs2 : Seen w a2 (n * 16) (byt z)) :
    Calls Try.prog 4 #[.slice a1 n c1, .slice a2 n c2] w fun e w' => e = .returned (.bool true) ∧ Below w.heap.size w w' := by
  have hby := agreeBytes_any a1 n c1 a2 n c2 w (by unfold maxLen; omega) (by unfold maxLen; omega)
  have hcl1 := cloneInt_any a1 n c1 q w hn h01 hs1
  have H2 : Hid (∀ w1, Below w.heap.size w w1 → Calls Try.prog 9 #[.slice a2 n c2] w1 fun e w' => ClonedId w1 n z e w') := fun w1 h => cloneId_any a2 n c2 z w1 hn h02 (hs2.below h)
  have H3 : Hid (∀ a3 c3 a4 c4 w1, Seen w1 a3 n (i64s q) → Seen w1 a4 (n * 16) (byt z) → Calls Try.prog 10 #[.slice a3 n c3, .slice a4 n c4] w1 fun e w' => MadeRef w1 n z q e w') := fun a3 c3 a4 c4 w1 h3 h4 => refs_any a3 n c3 a4 c4 z q w1 hn h3 h4
  have HE : Hid (∀ a3 c3 w1, Seen w1 a3 (n * 16) (byt z) → Calls Try.prog 15 #[.slice a3 n c3] w1 fun e w' => MadeId w1 47 n z e w') := fun a3 c3 w1 h => eventIDs_any a3 n c3 z w1 hn h
  have H4 : Hid (∀ g w1, World.rowIs w1 g 49 (n * 17) (refc z q) → Calls Try.prog 11 #[.slice (some ⟨g, 0, none⟩) n n] w1 fun e w' => UnzipRef w1 n z q e w') := fun g w1 h => zzPosIDs_any g n n z q w1 hn h
  have HU : Hid (∀ g w1, World.rowIs w1 g 47 (n * 16) (byt z) → Calls Try.prog 16 #[.slice (some ⟨g, 0, none⟩) n n] w1 fun e w' => MadeId w1 46 n z e w') := fun g w1 h => zzUUIDs_any g n n z w1 hn h
  have H5 : Hid (∀ g a3 c3 w1 r, World.rowIs w1 g 2 n (i64s q) → Seen w1 a3 n (i64s q) → Calls Try.prog 12 #[.slice (some ⟨g, 0, none⟩) n n, .slice a3 n c3] (w1.drewN r) fun e w' => e = .returned (.bool true) ∧ ∃ r', w' = (w1.drewN r).drewN r') := fun g a3 c3 w1 r h h3 => sameInt_any _ n n a3 c3 q _ hn (Seen.drewN (.row h) r) (h3.drewN r)
  have H6 : Hid (∀ g a3 c3 w1 r, World.rowIs w1 g 46 (n * 16) (byt z) → Seen w1 a3 (n * 16) (byt z) → Calls Try.prog 13 #[.slice (some ⟨g, 0, none⟩) n n, .slice a3 n c3] (w1.drewN r) fun e w' => e = .returned (.bool true) ∧ ∃ r', w' = (w1.drewN r).drewN r') := fun g a3 c3 w1 r h h3 => sameId_any _ n n a3 c3 z _ hn (Seen.drewN (.row h) r) (h3.drewN r)
  have H7 : Hid (∀ g g2 w1, World.rowIs w1 g 46 (n * 16) (byt z) → World.rowIs w1 g2 46 (n * 16) (byt z) → Calls Try.prog 13 #[.slice (some ⟨g, 0, none⟩) n n, .slice (some ⟨g2, 0, none⟩) n n] w1 fun e w' => e = .returned (.bool true) ∧ ∃ r', w' = w1.drewN r') := fun g g2 w1 h h2 => sameId_any _ n n _ n z _ hn (.row h) (.row h2)
  clear hs1 hs2 h01 h02
  go_enter Try.func4, Try.ntmps4
  go_wp2_with (first | (go_at_call 14; refine hby.mono ?_; rintro e w' ⟨b, rfl, rfl⟩; cases b) | (go_at_call 8; refine hcl1.mono ?_; rintro e w1 ⟨a3, c3, rfl, hs3, hb1⟩) | (go_at_call 9; refine (H2.out _ hb1).mono ?_; rintro e w2 ⟨a4, c4, rfl, hs4, hb2⟩) | (go_at_call 10; refine (H3.out _ _ _ _ _ (hs3.below hb2) hs4).mono ?_; rintro e w3 ⟨rfl, r3, hb3⟩) | (go_at_call 15; refine (HE.out _ _ _ (hs4.below hb3)).mono ?_; rintro e w4 ⟨rfl, r4, hb4⟩) | (go_at_call 11; refine (H4.out _ _ (below_rows r3 hb4 r3.lt)).mono ?_; rintro e w5 ⟨rfl, r5, r6, hb5⟩) | (go_at_call 16; refine (HU.out _ _ (below_rows r4 hb5 r4.lt)).mono ?_; rintro e w6 ⟨rfl, r7, hb6⟩) | (go_at_call_of 13 a4; refine (H6.out _ _ _ _ _ (below_rows r6 hb6 r6.lt) ((((hs4.below hb3).below hb4).below hb5).below hb6)).mono ?_; rintro e w8 ⟨rfl, r', rfl⟩) | (go_at_call 12; refine (H5.out _ _ _ _ _ (below_rows r5 hb6 r5.lt) (((((hs3.below hb2).below hb3).below hb4).below hb5).below hb6)).mono ?_; rintro e w9 ⟨rfl, r'', rfl⟩) | (go_at_call 13; refine (H7.out _ _ _ (below_rows r6 hb6 r6.lt) r7).mono ?_; rintro e w7 ⟨rfl, r, rfl⟩))
  · go_ret
    exact ⟨rfl, Below.refl _ _⟩
  · go_ret
    have h12 := hb1.trans (hb2.mono hb1.size)
    have h13 := h12.trans (hb3.mono h12.size)
    have h14 := h13.trans (hb4.mono h13.size)
    have h15 := h14.trans (hb5.mono h14.size)
    exact ⟨rfl, below_drewN (h15.trans (hb6.mono h15.size)) _⟩
end Go.Proofs.Qxb6605586a.Sl
