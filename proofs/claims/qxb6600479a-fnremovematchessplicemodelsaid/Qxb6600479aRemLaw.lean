/-
  THE LAW 'FnRemoveMatchesSpliceModel'.
-/
import Derived.Test.Qxb6600479aRemPlain
namespace Go.Proofs.Qxb6600479a.Scr
open Go.RowKit

theorem Own.below {B : Nat} {w w' : World} {t : TypeId} {a : Option Addr} {n c : Nat} {f : Nat → Value} (h : Own B w t a n c f) (hb : Below w.heap.size w w') : Own B w' t a n c f := h.same fun g e => hb.block g (h.lt e)
theorem Own.mono {B B' : Nat} {w : World} {t : TypeId} {a : Option Addr} {n c : Nat} {f : Nat → Value} (h : Own B w t a n c f) (hB : B' ≤ B) : Own B' w t a n c f := by
  rcases h with h | ⟨g, e, h1, h2, h3⟩
  · exact .inl h
  · exact .inr ⟨g, e, Nat.le_trans hB h1, h2, h3⟩
theorem Own.ge {B : Nat} {w : World} {t : TypeId} {a : Option Addr} {n c : Nat} {f : Nat → Value} (h : Own B w t a n c f) {g : Nat} (e : a = some ⟨g, 0, none⟩) : B ≤ g := by
  rcases h with ⟨rfl, _⟩ | ⟨g', rfl, h1, _, _⟩
  · cases e
  · cases e; exact h1
theorem Own.nil {B : Nat} {w : World} {t : TypeId} {a : Option Addr} {n c : Nat} {f : Nat → Value} (h : Own B w t a n c f) (e : a = none) : n = 0 := by
  rcases h with ⟨_, h1, _⟩ | ⟨g', h1, _⟩
  · exact h1
  · rw [e] at h1; cases h1

/-- The two pairs of clones: what the law's walk holds behind them. -/
structure Ready (w w2 w4 : World) (a3 a4 a5 a6 a1 a2 : Option Addr) (cn mn : Nat) (C : Nat → Int) (S : Nat → ByteArray) : Prop where
  be : Below w.heap.size w w4
  be24 : Below w2.heap.size w2 w4
  s3 : Seen w2 a3 cn (runes C)
  s4 : Seen w2 a4 mn (strs S)
  o5 : Own w2.heap.size w4 21 a5 cn cn (runes C)
  o6 : Own w2.heap.size w4 9 a6 mn mn (strs S)
  ap : ∀ g m, a5 = some ⟨g, 0, none⟩ → a6 = some ⟨m, 0, none⟩ → g ≠ m
  n4 : a4 = none ↔ a2 = none
  n6 : a6 = none ↔ a2 = none
  le2 : w.heap.size ≤ w2.heap.size

theorem ready {w w1 w2 w3 w4 : World} {a1 a2 a3 a4 a5 a6 : Option Addr} {cn mn : Nat} {C : Nat → Int} {S : Nat → ByteArray}
    (o3 : Own w.heap.size w1 21 a3 cn cn (runes C)) (b1 : Below w.heap.size w w1)
    (o4 : Own w1.heap.size w2 9 a4 mn mn (strs S)) (n4 : a4 = none ↔ a2 = none) (b2 : Below w1.heap.size w1 w2)
    (o5 : Own w2.heap.size w3 21 a5 cn cn (runes C)) (b3 : Below w2.heap.size w2 w3)
    (o6 : Own w3.heap.size w4 9 a6 mn mn (strs S)) (n6 : a6 = none ↔ a4 = none) (b4 : Below w3.heap.size w3 w4) : Ready w w2 w4 a3 a4 a5 a6 a1 a2 cn mn C S where
  be := (b1.trans (b2.mono b1.size)).trans ((b3.mono (Nat.le_trans b1.size b2.size)).trans (b4.mono (Nat.le_trans b1.size (Nat.le_trans b2.size b3.size))))
  be24 := b3.trans (b4.mono b3.size)
  s3 := o3.seen.below b2
  s4 := o4.seen
  o5 := o5.below b4
  o6 := o6.mono b3.size
  ap := fun g m e1 e2 => by have h1 := o5.lt e1; have h2 := o6.ge e2; omega
  n4 := n4
  n6 := n6.trans n4
  le2 := Nat.le_trans b1.size b2.size

set_option maxRecDepth 100000 in
set_option maxHeartbeats 1000000 in
/-- Out of the bounds: nothing is asked. -/
theorem rem_early (a1 : Option Addr) (n1 c1 : Nat) (a2 : Option Addr) (n2 c2 : Nat) (S : Nat → ByteArray) (fill x n : Int) (w : World) (h1 : n1 ≤ maxLen) (h2 : n2 ≤ maxLen) (hs2 : Seen w a2 n2 (strs S)) (hz : ∀ i, i < n2 → (S i).size ≤ maxLen)
    (hx0 : -9223372036854775808 ≤ x) (hx1 : x ≤ 9223372036854775807) (hn0 : -9223372036854775808 ≤ n) (hn1 : n ≤ 9223372036854775807)
    (hbad : ¬ (0 ≤ x ∧ x ≤ 65536 ∧ 0 ≤ n ∧ n ≤ 65536)) :
    Calls Try.prog 6 #[.slice a1 n1 c1, .slice a2 n2 c2, .int .i32 fill, .int .i64 x, .int .i64 n] w fun e w' => e = .returned (.bool true) ∧ Below w.heap.size w w' := by
  have hby := bytes_rem a1 n1 c1 a2 n2 c2 S fill x n w h1 h2 hs2 hz
  have hsz := fun hz => size_any a1 n1 c1 a2 n2 c2 S w h1 h2 hs2 hz
  have HS : Hid ((∀ i, i < n2 → (S i).size ≤ 1048576) → Calls Try.prog 10 #[.slice a1 n1 c1, .slice a2 n2 c2] w fun e w' => SizeEnd w n1 n2 e w') := hsz
  clear hs2 hz hsz h1 h2
  by_cases c1' : x < 0
  · clear hbad
    go_enter Try.func6, Try.ntmps6
    go_wp2_with (first | (go_at_call 21; refine hby.mono ?_; rintro e w' ⟨b, rfl, hbt, rfl⟩; cases b; all_goals try (have HB : Hid (∀ i, i < n2 → (S i).size ≤ 1048576) := hbt rfl); all_goals clear hbt) | (go_at_call 10; refine (HS.out HB.out).mono ?_; rintro e w' ⟨b, rfl, hb2, rfl⟩; clear hb2; cases b))
    all_goals (go_ret; exact ⟨rfl, Below.refl _ _⟩)
  by_cases c2' : 65536 < x
  · clear hbad
    go_enter Try.func6, Try.ntmps6
    go_wp2_with (first | (go_at_call 21; refine hby.mono ?_; rintro e w' ⟨b, rfl, hbt, rfl⟩; cases b; all_goals try (have HB : Hid (∀ i, i < n2 → (S i).size ≤ 1048576) := hbt rfl); all_goals clear hbt) | (go_at_call 10; refine (HS.out HB.out).mono ?_; rintro e w' ⟨b, rfl, hb2, rfl⟩; clear hb2; cases b))
    all_goals (go_ret; exact ⟨rfl, Below.refl _ _⟩)
  by_cases c3' : n < 0
  · clear hbad
    go_enter Try.func6, Try.ntmps6
    go_wp2_with (first | (go_at_call 21; refine hby.mono ?_; rintro e w' ⟨b, rfl, hbt, rfl⟩; cases b; all_goals try (have HB : Hid (∀ i, i < n2 → (S i).size ≤ 1048576) := hbt rfl); all_goals clear hbt) | (go_at_call 10; refine (HS.out HB.out).mono ?_; rintro e w' ⟨b, rfl, hb2, rfl⟩; clear hb2; cases b))
    all_goals (go_ret; exact ⟨rfl, Below.refl _ _⟩)
  by_cases c4' : 65536 < n
  · clear hbad
    go_enter Try.func6, Try.ntmps6
    go_wp2_with (first | (go_at_call 21; refine hby.mono ?_; rintro e w' ⟨b, rfl, hbt, rfl⟩; cases b; all_goals try (have HB : Hid (∀ i, i < n2 → (S i).size ≤ 1048576) := hbt rfl); all_goals clear hbt) | (go_at_call 10; refine (HS.out HB.out).mono ?_; rintro e w' ⟨b, rfl, hb2, rfl⟩; clear hb2; cases b))
    all_goals (go_ret; exact ⟨rfl, Below.refl _ _⟩)
  exact absurd ⟨by omega, by omega, by omega, by omega⟩ hbad

theorem seen_drewN {w : World} {a : Option Addr} {m : Nat} {f : Nat → Value} (h : Seen w a m f) (q : Nat) : Seen (w.drewN q) a m f := h.below (below_drewN (Below.refl _ _) q)
theorem marks_nil {w w2 w4 : World} {a3 a4 a5 a6 a1 a2 : Option Addr} {cn mn : Nat} {C : Nat → Int} {S : Nat → ByteArray} (R : Ready w w2 w4 a3 a4 a5 a6 a1 a2 cn mn C S) {g3 k3 : Option Addr} (p3 : g3 = none ↔ a6 = none) (q3 : k3 = none ↔ a4 = none) : g3 = none ↔ k3 = none := p3.trans (R.n6.trans (R.n4.symm.trans q3.symm))
theorem marks_len {w w2 w4 : World} {a3 a4 a5 a6 a1 a2 : Option Addr} {cn mn : Nat} {C : Nat → Int} {S : Nat → ByteArray} (R : Ready w w2 w4 a3 a4 a5 a6 a1 a2 cn mn C S) {g3 k3 : Option Addr} {g4 k4 sz : Nat} (p0 : g3 = none → g4 = 0) (p3 : g3 = none ↔ a6 = none) (p4 : g3 = none ∨ g4 = sz) (q3 : k3 = none ↔ a4 = none) (q4 : k3 = none → k4 = 0) (q5 : k3 = none ∨ k4 = sz) : g4 = k4 := by
  have hn := marks_nil R p3 q3
  by_cases e : g3 = none
  · rw [p0 e, q4 (hn.1 e)]
  · rw [p4.resolve_left e, q5.resolve_left (fun h => e (hn.2 h))]
theorem len_or' {a : Option Addr} {n sz : Nat} (h : a = none → n = 0) (e : a = none ∨ n = sz) : n = 0 ∨ n = sz := by
  rcases e with e | e
  · exact .inl (h e)
  · exact .inr e

set_option maxRecDepth 100000 in
set_option maxHeartbeats 1000000 in
theorem rem_main (a1 : Option Addr) (cn c1 : Nat) (a2 : Option Addr) (mn c2 : Nat) (C : Nat → Int) (S : Nat → ByteArray) (fill : Int) (x n : Nat) (w : World) (h1 : cn ≤ maxLen) (h2 : mn ≤ maxLen) (hs1 : Seen w a1 cn (runes C)) (hs2 : Seen w a2 mn (strs S)) (h01 : a1 = none → cn = 0) (h02 : a2 = none → mn = 0) (hz : ∀ i, i < mn → (S i).size ≤ maxLen)
    (hx : x ≤ 65536) (hn : n ≤ 65536) :
    Calls Try.prog 6 #[.slice a1 cn c1, .slice a2 mn c2, .int .i32 fill, .int .i64 x, .int .i64 n] w fun e w' => e = .returned (.bool true) ∧ Below w.heap.size w w' := by
  have hby := bytes_rem a1 cn c1 a2 mn c2 S fill x n w h1 h2 hs2 hz
  have hsz := fun hz => size_any a1 cn c1 a2 mn c2 S w h1 h2 hs2 hz
  have HS : Hid ((∀ i, i < mn → (S i).size ≤ 1048576) → Calls Try.prog 10 #[.slice a1 cn c1, .slice a2 mn c2] w fun e w' => SizeEnd w cn mn e w') := hsz
  have hft := fit_any a1 cn c1 a2 mn c2 w
  have H1 : Hid (cn ≤ 262144 → Calls Try.prog 12 #[.slice a1 cn c1] w fun e w' => Cloned w 21 a1 cn (runes C) e w') := fun hc => cloneRun_any a1 cn c1 C w hc h01 hs1
  have H2 : Hid (mn ≤ 262144 → ∀ w1, Below w.heap.size w w1 → Calls Try.prog 13 #[.slice a2 mn c2] w1 fun e w' => Cloned w1 9 a2 mn (strs S) e w') := fun hm w1 hb => cloneStr_any a2 mn c2 S w1 hm h02 (hs2.below hb)
  have H3 : Hid (cn ≤ 262144 → ∀ w2 a3, (a3 = none → cn = 0) → Seen w2 a3 cn (runes C) → Calls Try.prog 12 #[.slice a3 cn cn] w2 fun e w' => Cloned w2 21 a3 cn (runes C) e w') := fun hc w2 a3 h0 hs => cloneRun_any a3 cn cn C w2 hc h0 hs
  have H4 : Hid (mn ≤ 262144 → ∀ w3 a4, (a4 = none → mn = 0) → Seen w3 a4 mn (strs S) → Calls Try.prog 13 #[.slice a4 mn mn] w3 fun e w' => Cloned w3 9 a4 mn (strs S) e w') := fun hm w3 a4 h0 hs => cloneStr_any a4 mn mn S w3 hm h0 hs
  obtain ⟨sz, mf, MC, MS, hszl, h5, h6⟩ : ∃ (sz : Nat) (mf : Int) (MC : Nat → Int) (MS : Nat → ByteArray), (cn ≤ 262144 → sz ≤ 262144) ∧
      (cn ≤ 262144 → (a2 = none ∨ mn = cn) → ∀ w2 w4 a3 a4 a5 a6, Ready w w2 w4 a3 a4 a5 a6 a1 a2 cn mn C S → Calls Try.prog 22 #[.slice a5 cn cn, .slice a6 mn mn, .int .i32 fill, .int .i64 x, .int .i64 n] w4 fun e w' => RemRes w2.heap.size w4 sz a6 mf MC MS e w') ∧
      (cn ≤ 262144 → mn ≤ 262144 → (a2 = none ∨ mn = cn) → ∀ w5 a3 a4, (a3 = none → cn = 0) → (a4 = none → mn = 0) → Seen w5 a3 cn (runes C) → Seen w5 a4 mn (strs S) → (a4 = none ↔ a2 = none) → Calls Try.prog 23 #[.slice a3 cn cn, .slice a4 mn mn, .int .i32 fill, .int .i64 x, .int .i64 n] w5 fun e w' => ModEnd w5 sz a4 mf MC MS e w') := by
    by_cases hfar : cn ≤ x
    · refine ⟨cn, fill, C, S, id, fun hcn hfit w2 w4 a3 a4 a5 a6 R => ?_, fun hcn hmn hfit w5 a3 a4 n3 n4' s3 s4 n4 => remModel_far a3 cn cn a4 mn mn C S fill w5 x n hfar hcn hmn (hfit.imp n4.2 id) n3 n4' s3 s4⟩
      exact zzRemove_any w2.heap.size w4 a5 cn a6 mn fill C S x n cn _ _ _ R.be24.size R.o5 R.o6 R.ap fun w1 bx hl => remove_far w2.heap.size w1 bx a5 cn cn a6 mn mn fill C S x n hfar (hfit.imp R.n6.2 id) hl
    · refine ⟨x + (cn - (x + n)), 0, rmC C cn x n, rmS C S cn x n, fun h => by omega, fun hcn hfit w2 w4 a3 a4 a5 a6 R => ?_, fun hcn hmn hfit w5 a3 a4 n3 n4' s3 s4 n4 => ?_⟩
      · exact zzRemove_any w2.heap.size w4 a5 cn a6 mn fill C S x n _ _ _ _ R.be24.size R.o5 R.o6 R.ap fun w1 bx hl => remove_near w2.heap.size w1 bx a5 cn cn a6 mn mn fill C S x n _ (by omega) hn hcn rfl (hfit.imp R.n6.2 id) hl
      · exact remModel_near a3 cn cn a4 mn mn C S fill w5 x n (x + n) (cn - (x + n)) _ (by omega) hn hcn rfl rfl rfl (hfit.imp n4.2 id) s3 s4 _ _ rfl rfl _ _ (isRC C cn x n) (isRS C S cn x n)
  have H5 : Hid (cn ≤ 262144 → (a2 = none ∨ mn = cn) → ∀ w2 w4 a3 a4 a5 a6, Ready w w2 w4 a3 a4 a5 a6 a1 a2 cn mn C S → Calls Try.prog 22 #[.slice a5 cn cn, .slice a6 mn mn, .int .i32 fill, .int .i64 x, .int .i64 n] w4 fun e w' => RemRes w2.heap.size w4 sz a6 mf MC MS e w') := h5
  have H6 : Hid (cn ≤ 262144 → mn ≤ 262144 → (a2 = none ∨ mn = cn) → ∀ w5 a3 a4, (a3 = none → cn = 0) → (a4 = none → mn = 0) → Seen w5 a3 cn (runes C) → Seen w5 a4 mn (strs S) → (a4 = none ↔ a2 = none) → Calls Try.prog 23 #[.slice a3 cn cn, .slice a4 mn mn, .int .i32 fill, .int .i64 x, .int .i64 n] w5 fun e w' => ModEnd w5 sz a4 mf MC MS e w') := h6
  have H7 : Hid (cn ≤ 262144 → ∀ w6 b1 k1 b2 k2, Seen w6 b1 sz (runes MC) → Seen w6 b2 sz (runes MC) → Calls Try.prog 16 #[.slice b1 sz k1, .slice b2 sz k2] w6 fun e w' => e = .returned (.bool true) ∧ ∃ q, w' = w6.drewN q) := fun hcn w6 b1 k1 b2 k2 s1 s2 => sameRun_any b1 sz k1 b2 k2 _ w6 (by have := hszl hcn; omega) s1 s2
  have H8 : Hid (cn ≤ 262144 → ∀ w6 b1 m k1 b2 m2 k2, m = m2 → (m = 0 ∨ m = sz) → (b1 = none ↔ b2 = none) → Seen w6 b1 m (strs MS) → Seen w6 b2 m2 (strs MS) → Calls Try.prog 17 #[.slice b1 m k1, .slice b2 m2 k2] w6 fun e w' => e = .returned (.bool true) ∧ ∃ q, w' = w6.drewN q) := fun hcn w6 b1 m k1 b2 m2 k2 hm hmz hn s1 s2 => by
    subst hm
    have := hszl hcn
    exact sameStr_any b1 m k1 b2 k2 _ w6 (by omega) hn s1 s2
  clear hs1 hs2 h01 h02 hz hsz h1 h2 h5 h6 hszl
  go_enter Try.func6, Try.ntmps6
  go_wp2_with (first
    | (go_at_call 21; refine hby.mono ?_; rintro e w' ⟨b, rfl, hbt, rfl⟩; cases b; all_goals try (have HB : Hid (∀ i, i < mn → (S i).size ≤ 1048576) := hbt rfl); all_goals clear hbt)
    | (go_at_call 10; refine (HS.out HB.out).mono ?_; rintro e w' ⟨b, rfl, hb2, rfl⟩; cases b; all_goals try (have hcn := (hb2 rfl).1; have hmn := (hb2 rfl).2); all_goals clear hb2)
    | (go_at_call 11; refine hft.mono ?_; rintro e w' ⟨b, rfl, hb3, rfl⟩; cases b; all_goals try (have HF : Hid (a2 = none ∨ mn = cn) := hb3 rfl); all_goals clear hb3)
    | (go_at_call_of 12 a1; refine (H1.out hcn).mono ?_; rintro e w1 ⟨a3, rfl, o3, n3, b1⟩)
    | (go_at_call_of 13 a2; refine (H2.out (by omega) _ b1).mono ?_; rintro e w2 ⟨a4, rfl, o4, n4, b2⟩)
    | (go_at_call_of 12 a3; refine (H3.out hcn _ _ o3.nil (o3.seen.below b2)).mono ?_; rintro e w3 ⟨a5, rfl, o5, n5, b3⟩)
    | (go_at_call_of 13 a4; refine (H4.out (by omega) _ _ o4.nil (o4.seen.below b3)).mono ?_; rintro e w4 ⟨a6, rfl, o6, n6, b4⟩; have R : Ready w w2 w4 a3 a4 a5 a6 a1 a2 cn mn C S := ready o3 b1 o4 n4 b2 o5 b3 o6 n6 b4; have N3 : Hid (a3 = none → cn = 0) := o3.nil; have N4 : Hid (a4 = none → mn = 0) := o4.nil; clear o3 o4 o5 o6 b1 b2 b3 b4 n3 n5)
    | (go_at_call 22; refine (H5.out hcn HF.out _ _ _ _ _ _ R).mono ?_; rintro e w5 ⟨g1, g2, g3, g4, g5, rfl, p1, p2, p3, p0, p4, p5⟩; have P0 : Hid (g3 = none → g4 = 0) := p0; clear p0)
    | (go_at_call 23; refine (H6.out hcn (by omega) HF.out _ _ _ N3.out N4.out (R.s3.below (R.be24.trans p5)) (R.s4.below (R.be24.trans p5)) R.n4).mono ?_; rintro e w6 ⟨k1, k2, k3, k4, k5, rfl, q1, q2, q3, q4, q5, q6⟩; have Q4 : Hid (k3 = none → k4 = 0) := q4; clear q4)
    | (go_at_call 16; refine (H7.out hcn _ _ _ _ _ (p1.below q6) q1).mono ?_; rintro e w7 ⟨rfl, t1, rfl⟩)
    | (go_at_call 17; refine (H8.out hcn _ _ _ _ _ _ _ (marks_len R P0.out p3 p4 q3 Q4.out q5) (len_or' P0.out p4) (marks_nil R p3 q3) (seen_drewN (p2.below q6) t1) (seen_drewN q2 t1)).mono ?_; rintro e w8 ⟨rfl, t2, rfl⟩))
  all_goals go_ret
  all_goals first | exact ⟨rfl, Below.refl _ _⟩ | exact ⟨rfl, below_drewN ((R.be.trans (p5.mono R.le2)).trans (q6.mono (Nat.le_trans R.be.size p5.size))) _⟩
end Go.Proofs.Qxb6600479a.Scr
