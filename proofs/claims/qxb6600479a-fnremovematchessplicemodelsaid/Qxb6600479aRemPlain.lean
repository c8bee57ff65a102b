/-
  THE LAW 'FnRemoveMatchesSpliceModel': its count of bytes, its plain law.
-/
import Derived.Test.Qxb6600479aRemModel
import Derived.Test.Qxb6600479aZzR
import Derived.Test.Qxb6600479aPutPlain
namespace Go.Proofs.Qxb6600479a.Scr
open Go.RowKit

set_option maxRecDepth 100000 in
set_option maxHeartbeats 1000000 in
theorem bytes_rem (a1 : Option Addr) (n1 c1 : Nat) (a2 : Option Addr) (n2 c2 : Nat) (S : Nat → ByteArray) (fill x n : Int) (w : World) (h1 : n1 ≤ maxLen) (h2 : n2 ≤ maxLen) (hs : Seen w a2 n2 (strs S)) (hz : ∀ i, i < n2 → (S i).size ≤ maxLen) :
    Calls Try.prog 21 #[.slice a1 n1 c1, .slice a2 n2 c2, .int .i32 fill, .int .i64 x, .int .i64 n] w fun e w' => BytesEnd w n2 S e w' := by
  unfold maxLen at h1 h2 hz
  have HZ : Hid (∀ i, i < n2 → (S i).size ≤ 9223372036854775807) := hz
  have hno : BytesEnd w n2 S (.returned (.bool false)) w := ⟨false, rfl, fun h => (by cases h), rfl⟩
  have hyes : (∀ i, i < n2 → (S i).size ≤ 1048576) → BytesEnd w n2 S (.returned (.bool true)) w := fun h => ⟨true, rfl, fun _ => h, rfl⟩
  have HY : Hid ((∀ i, i < n2 → (S i).size ≤ 1048576) → BytesEnd w n2 S (.returned (.bool true)) w) := hyes
  clear hz hyes
  by_cases g1 : n1 ≤ 1048576
  · by_cases g2 : n2 ≤ 1048576
    · by_cases g3 : n1 + n2 ≤ 1048576
      · go_enter Try.func21, Try.ntmps21
        go_wp2
        go_loop [11, 12] (fun zn zi => ∃ (s : Int) (k : Nat), 0 ≤ s ∧ s ≤ 1048576 ∧ k ≤ n2 ∧ zn = .int .i64 s ∧ zi = .int .i64 k ∧ ∀ i, i < k → (S i).size ≤ 1048576) (fun _ zi => n2 - (intOf zi).toNat)
        case atStart => exact ⟨_, 0, by omega, by omega, Nat.zero_le _, rfl, rfl, fun i hi => (by omega)⟩
        case round =>
        obtain ⟨s, k, hs0, hsl, hk, rfl, rfl, hall⟩ := hrel
        by_cases hlt : k < n2
        · obtain ⟨b, off, rfl, hb, hc⟩ := hs.at hlt
          unfold strs at hc
          have hlk := HZ.out k hlt
          clear hs
          have hnext : (S k).size ≤ 1048576 → ∀ i, i < k + 1 → (S i).size ≤ 1048576 := fun h i hi => by
            by_cases e : i = k
            · rw [e]; exact h
            · exact hall i (by omega)
          have HN : Hid ((S k).size ≤ 1048576 → ∀ i, i < k + 1 → (S i).size ≤ 1048576) := hnext
          clear hall hnext
          generalize hsk : S k = sk at hc hlk HN
          clear hsk
          by_cases h4 : sk.size ≤ 1048576
          · have HN' : Hid (∀ i, i < k + 1 → (S i).size ≤ 1048576) := HN.out h4
            clear HN
            by_cases h5 : s + sk.size ≤ 1048576
            · go_wp2
              go_round
              case rel => exact ⟨_, k + 1, by omega, h5, by omega, rfl, by go_num, HN'.out⟩
              case measure => simp [intOf]; omega
            · go_wp2
              go_ret
              exact hno
          · go_wp2
            go_ret
            exact hno
        · have HA : Hid (∀ i, i < k → (S i).size ≤ 1048576) := hall
          clear hall hs
          go_wp2
          go_ret
          exact HY.out fun i hi => HA.out i (by omega)
      · clear hs
        go_enter Try.func21, Try.ntmps21
        go_wp2
        go_ret
        exact hno
    · clear hs
      go_enter Try.func21, Try.ntmps21
      go_wp2
      go_ret
      exact hno
  · clear hs
    go_enter Try.func21, Try.ntmps21
    go_wp2
    go_ret
    exact hno


theorem RemEnd.congr {B : Nat} {w : World} {bx sz : Nat} {ma : Option Addr} {fill : Int} {RC RC' : Nat → Int} {RS RS' : Nat → ByteArray} {e : Ending} {w' : World} (h : RemEnd B w bx sz ma fill RC RS e w') (h1 : ∀ i, i < sz → RC i = RC' i) (h2 : ∀ i, i < sz → RS i = RS' i) : RemEnd B w bx sz ma fill RC' RS' e w' := by
  obtain ⟨ca, cc, ma', mn, mc, C, S, e1, l, c, s, r⟩ := h
  exact ⟨ca, cc, ma', mn, mc, C, S, e1, l, fun i hi => (c i hi).trans (h1 i hi), fun i hi => (s i hi).trans (h2 i hi), r⟩

theorem remove_near (B : Nat) (w : World) (bx : Nat) (ca : Option Addr) (cn cc : Nat) (ma : Option Addr) (mn mc : Nat) (fill : Int) (C : Nat → Int) (S : Nat → ByteArray) (x n sz : Nat) (hx : x < cn) (hn : n ≤ 65536) (hcn : cn ≤ 262144) (hsz : sz = x + (cn - (x + n))) (hfit : ma = none ∨ mn = cn) (hl : Ln B w bx ca cn cc ma mn mc fill C S) :
    Calls Try.prog 27 #[.pointer (some ⟨bx, 0, none⟩), .int .i64 x, .int .i64 n] w fun e w' => RemEnd B w bx sz ma 0 (rmC C cn x n) (rmS C S cn x n) e w' := by
  by_cases h : cn ≤ x + n
  · obtain rfl : sz = x := by omega
    refine (remove_tail B w bx ca cn cc ma mn mc fill C S sz n hx h hn hcn hfit hl).mono fun e w' he => he.congr (fun i hi => ?_) fun i hi => ?_
    · rw [cutC_at C cn sz (sz + n) i (by omega)]
      unfold rmC sr
      rw [if_neg (show ¬ sz ≤ i by omega)]
    · rw [cutS_at C S cn sz (sz + n) i (by omega)]
      unfold rmS sr
      rw [if_neg (show ¬ sz ≤ i by omega)]
  · obtain rfl : sz = cn - n := by omega
    refine (remove_mid B w bx ca cn cc ma mn mc fill C S x n (by omega) hn hcn hfit hl).mono fun e w' he => he.congr (fun i hi => ?_) fun i hi => ?_
    · unfold shC rmC sr
      by_cases c : x ≤ i
      · rw [if_pos ⟨c, hi⟩, if_pos c, cutC_at C cn x (x + n) (i + n) (by omega)]
      · rw [if_neg (fun h => c h.1), if_neg c, cutC_at C cn x (x + n) i (by omega)]
    · unfold shS rmS sr
      by_cases c : x ≤ i
      · rw [if_pos ⟨c, hi⟩, if_pos c, cutS_at C S cn x (x + n) (i + n) (by omega)]
      · rw [if_neg (fun h => c h.1), if_neg c, cutS_at C S cn x (x + n) i (by omega)]

set_option maxRecDepth 100000 in
set_option maxHeartbeats 1000000 in
theorem remModel_far (a1 : Option Addr) (cn c1 : Nat) (a2 : Option Addr) (mn c2 : Nat) (C : Nat → Int) (S : Nat → ByteArray) (fill : Int) (w : World) (x n : Nat) (hx : cn ≤ x) (hcn : cn ≤ 262144) (hmn : mn ≤ 262144) (hfit : a2 = none ∨ mn = cn) (h01 : a1 = none → cn = 0) (h02 : a2 = none → mn = 0) (hs1 : Seen w a1 cn (runes C)) (hs2 : Seen w a2 mn (strs S)) :
    Calls Try.prog 23 #[.slice a1 cn c1, .slice a2 mn c2, .int .i32 fill, .int .i64 x, .int .i64 n] w fun e w' => ModEnd w cn a2 fill C S e w' := by
  have hc1 := cloneRun_any a1 cn c1 C w hcn h01 hs1
  have H2 : Hid (∀ w1, Below w.heap.size w w1 → Calls Try.prog 13 #[.slice a2 mn c2] w1 fun e w' => Cloned w1 9 a2 mn (strs S) e w') := fun w1 hb => cloneStr_any a2 mn c2 S w1 hmn h02 (hs2.below hb)
  have HF : Hid (a2 = none ∨ mn = cn) := hfit
  have H02 : Hid (a2 = none → mn = 0) := h02
  clear h01 h02 hs1 hs2 hfit hmn
  go_enter Try.func23, Try.ntmps23
  go_wp2_with (first | (go_at_call 12; refine hc1.mono ?_; rintro e w1 ⟨a3, rfl, o3, n3, b1⟩) | (go_at_call 13; refine (H2.out _ b1).mono ?_; rintro e w2 ⟨a4, rfl, o4, n4, b2⟩))
  go_ret3
  exact ⟨_, _, _, _, _, rfl, o3.seen.below b2, o4.seen, n4, fun h => H02.out (n4.1 h), HF.out.imp n4.2 id, b1.trans (b2.mono b1.size)⟩
end Go.Proofs.Qxb6600479a.Scr
