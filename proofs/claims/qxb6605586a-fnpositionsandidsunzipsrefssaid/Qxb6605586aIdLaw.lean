/-
  THE LAW 'FnUUIDsKeepsEveryIDInOrder'.
-/
import Derived.Test.Qxb6605586aIdSame
namespace Go.Proofs.Qxb6605586a.Sl
open Go.RowKit

/-- It answers a bool, and turns nothing. -/
def AskEnd (w : World) (e : Ending) (w' : World) : Prop := ∃ b : Bool, e = .returned (.bool b) ∧ w = w'

set_option maxRecDepth 100000 in
set_option maxHeartbeats 400000 in
theorem idBytes_any (a1 : Option Addr) (n c1 : Nat) (w : World) (h1 : n ≤ maxLen) :
    Calls Try.prog 22 #[.slice a1 n c1] w fun e w' => AskEnd w e w' := by
  unfold maxLen at h1
  by_cases g1 : n ≤ 1048576
  · go_enter Try.func22, Try.ntmps22
    go_wp2
    go_loop [3, 4] (fun zn zi => ∃ (s : Int) (k : Nat), 0 ≤ s ∧ s ≤ 1048576 ∧ k ≤ n ∧ zn = .int .i64 s ∧ zi = .int .i64 k) (fun _ zi => n - (intOf zi).toNat)
    case atStart => exact ⟨_, 0, by omega, by omega, Nat.zero_le _, rfl, rfl⟩
    case round =>
    obtain ⟨s, k, hs0, hsl, hk, rfl, rfl⟩ := hrel
    by_cases hlt : k < n
    · by_cases h5 : s + 16 ≤ 1048576
      · go_wp2
        go_round
        case rel => exact ⟨_, k + 1, by omega, h5, by omega, rfl, by go_num⟩
        case measure => simp [intOf]; omega
      · go_wp2
        go_ret
        exact ⟨_, rfl, rfl⟩
    go_wp2
    go_ret
    exact ⟨_, rfl, rfl⟩
  · go_enter Try.func22, Try.ntmps22
    go_wp2
    go_ret
    exact ⟨_, rfl, rfl⟩

theorem zzUUIDs_any (g n c : Nat) (z : Nat → Int) (w : World) (hn : n ≤ 65536) (hs : w.rowIs g 47 (n * 16) (byt z)) :
    Calls Try.prog 16 #[.slice (some ⟨g, 0, none⟩) n c] w fun e w' => MadeId w 46 n z e w' := by
  have ht := uuids_any g n c z w hn hs
  clear hs
  go_enter Try.func16, Try.ntmps16
  go_wp2_with (go_at_call 24; refine ht.mono ?_; rintro e w' ⟨rfl, h1, h2⟩)
  go_ret
  exact ⟨rfl, h1, h2⟩

set_option maxRecDepth 100000 in
set_option maxHeartbeats 400000 in
/-- Too many: nothing is asked. -/
theorem uu_early (a : Option Addr) (n c : Nat) (w : World) (h1 : n ≤ maxLen) (hbig : 65536 < n) :
    Calls Try.prog 6 #[.slice a n c] w fun e w' => e = .returned (.bool true) ∧ Below w.heap.size w w' := by
  have hby := idBytes_any a n c w h1
  unfold maxLen at h1
  go_enter Try.func6, Try.ntmps6
  go_wp2_with (first | (go_at_call 22; refine hby.mono ?_; rintro e w' ⟨b, rfl, rfl⟩; cases b))
  all_goals (go_ret; exact ⟨rfl, Below.refl _ _⟩)

set_option maxRecDepth 100000 in
set_option maxHeartbeats 400000 in
theorem uu_main (a : Option Addr) (n c : Nat) (z : Nat → Int) (w : World) (hn : n ≤ 65536) (h0 : a = none → n = 0) (hs : Seen w a (n * 16) (byt z)) :
    Calls Try.prog 6 #[.slice a n c] w fun e w' => e = .returned (.bool true) ∧ Below w.heap.size w w' := by
  have hby := idBytes_any a n c w (by unfold maxLen; omega)
  have hcl := cloneId_any a n c z w hn h0 hs
  have hev := fun a3 c3 w1 (h : Seen w1 a3 (n * 16) (byt z)) => eventIDs_any a3 n c3 z w1 hn h
  have huu := fun g w1 (h : World.rowIs w1 g 47 (n * 16) (byt z)) => zzUUIDs_any g n n z w1 hn h
  have hsm := fun g a3 c3 w1 (h : World.rowIs w1 g 46 (n * 16) (byt z)) (h3 : Seen w1 a3 (n * 16) (byt z)) => sameId_any (some ⟨g, 0, none⟩) n n a3 c3 z w1 hn (.row h) h3
  have hen := fun b w => Lib.run_eql_slice_nil (P := Try.prog) w 23 46 (some ⟨b, 0, none⟩) n n 0 0 Try.underlying23
  have HE : Hid (∀ a3 c3 w1, Seen w1 a3 (n * 16) (byt z) → Calls Try.prog 15 #[.slice a3 n c3] w1 fun e w' => MadeId w1 47 n z e w') := hev
  have HU : Hid (∀ g w1, World.rowIs w1 g 47 (n * 16) (byt z) → Calls Try.prog 16 #[.slice (some ⟨g, 0, none⟩) n n] w1 fun e w' => MadeId w1 46 n z e w') := huu
  have HS : Hid _ := hsm
  clear hev huu hsm hs h0
  go_enter Try.func6, Try.ntmps6
  go_wp2_with (first | (go_at_call 22; refine hby.mono ?_; rintro e w' ⟨b, rfl, rfl⟩; cases b) | (go_at_call 9; refine hcl.mono ?_; rintro e w1 ⟨a3, c3, rfl, hs3, hb1⟩) | (go_at_call 15; refine (HE.out _ _ _ hs3).mono ?_; rintro e w2 ⟨rfl, r2, hb2⟩) | (go_at_call 16; refine (HU.out _ _ r2).mono ?_; rintro e w3 ⟨rfl, r3, hb3⟩) | (go_at_call 13; refine (HS.out _ _ _ _ r3 ((hs3.below hb2).below hb3)).mono ?_; rintro e w4 ⟨rfl, q, rfl⟩))
  · go_ret
    exact ⟨rfl, Below.refl _ _⟩
  · go_ret
    refine ⟨rfl, below_drewN ?_ _⟩
    have h12 := hb1.trans (hb2.mono hb1.size)
    exact h12.trans (hb3.mono h12.size)
end Go.Proofs.Qxb6605586a.Sl
