/-
  'typesAndIDs', 'zzSameStrings', AND THE LAW 'FnTypesAndIDsUnzipsAggregates'.
-/
import Derived.Test.Qxb6605586aTyWalks
import Derived.Deep.RegionWith
namespace Go.Proofs.Qxb6605586a.Sl
open Go.RowKit

/-- Two new rows, k cells of each written. -/
def Two (w wr : World) (t1 t2 : TypeId) (n k : Nat) (f1 f2 : Nat → Value) (z1 z2 : Value) : Prop :=
  wr.rowIs w.heap.size t1 n (fun j => if j < k then f1 j else z1) ∧ wr.rowIs (w.heap.size + 1) t2 n (fun j => if j < k then f2 j else z2) ∧ Below w.heap.size w wr

theorem two_start (w : World) (t1 t2 : TypeId) (n : Nat) (f1 f2 : Nat → Value) (z1 z2 : Value) : Two w ((w.alloc (.cells (madeCells #[z1] n) t1)).alloc (.cells (madeCells #[z2] n) t2)) t1 t2 n 0 f1 f2 z1 z2 := by
  refine ⟨((World.rowIs_made w z1 n t1).alloc _).congr fun i _ => by simp, ?_, ((Below.refl _ _).alloc (Nat.le_refl _) _).alloc (by simp) _⟩
  have := World.rowIs_made (w.alloc (.cells (madeCells #[z1] n) t1)) z2 n t2
  simp only [World.size_alloc] at this
  exact this.congr fun i _ => by simp

theorem two_step {w wr : World} {t1 t2 : TypeId} {n k : Nat} {f1 f2 : Nat → Value} {z1 z2 v1 v2 : Value} (e1 : f1 k = v1) (e2 : f2 k = v2) (o : Obj) (h : Two w wr t1 t2 n k f1 f2 z1 z2) :
    Two w (((wr.setCell ⟨w.heap.size, k, none⟩ v1).setCell ⟨w.heap.size + 1, k, none⟩ v2).alloc o) t1 t2 n (k + 1) f1 f2 z1 z2 := by
  obtain ⟨h1, h2, h3⟩ := h
  subst e1; subst e2
  refine ⟨((((h1.set _ _).setOther (by show w.heap.size ≠ w.heap.size + 1; omega) _).alloc o)).congr fun t _ => set_congr t, ((((h2.setOther (by show w.heap.size + 1 ≠ w.heap.size; omega) _).set _ _).alloc o)).congr fun t _ => set_congr t, ?_⟩
  have hb := (h3.setCell (p := ⟨w.heap.size, k, none⟩) (Nat.le_refl _) (f1 k)).setCell (p := ⟨w.heap.size + 1, k, none⟩) (by show w.heap.size ≤ w.heap.size + 1; omega) (f2 k)
  exact hb.alloc hb.size o

theorem two_done {w wr : World} {t1 t2 : TypeId} {n : Nat} {f1 f2 : Nat → Value} {z1 z2 : Value} (h : Two w wr t1 t2 n n f1 f2 z1 z2) : wr.rowIs w.heap.size t1 n f1 ∧ wr.rowIs (w.heap.size + 1) t2 n f2 :=
  ⟨h.1.congr fun j hj => by simp [hj], h.2.1.congr fun j hj => by simp [hj]⟩

/-- The cells of a slice of aggregates. -/
def pairs (S1 S2 : Nat → ByteArray) (c : Nat) : Value := if c % 2 = 0 then .string (S1 (c / 2)) else .string (S2 (c / 2))

theorem pairs_at (S1 S2 : Nat → ByteArray) (k : Nat) : pairs S1 S2 (k * 2) = .string (S1 k) ∧ pairs S1 S2 (k * 2 + 1) = .string (S2 k) := by
  unfold pairs
  constructor
  · rw [if_pos (by omega), show k * 2 / 2 = k by omega]
  · rw [if_neg (by omega), show (k * 2 + 1) / 2 = k by omega]

/-- How 'typesAndIDs' ends. -/
def Unzip (w : World) (t1 t2 : TypeId) (n : Nat) (f1 f2 : Nat → Value) (e : Ending) (w' : World) : Prop :=
  e = .returned (.tuple #[.slice (some ⟨w.heap.size, 0, none⟩) n n, .slice (some ⟨w.heap.size + 1, 0, none⟩) n n]) ∧ w'.rowIs w.heap.size t1 n f1 ∧ w'.rowIs (w.heap.size + 1) t2 n f2 ∧ Below w.heap.size w w'

set_option maxRecDepth 100000 in
set_option maxHeartbeats 400000 in
theorem typesAndIDs_any (g n c : Nat) (S1 S2 : Nat → ByteArray) (w : World) (hn : n ≤ 65536) (hs : w.rowIs g 42 (n * 2) (pairs S1 S2)) :
    Calls Try.prog 25 #[.slice (some ⟨g, 0, none⟩) n c] w fun e w' => Unzip w 9 9 n (strs S1) (strs S2) e w' := by
  have hmk := run_make_row' (P := Try.prog) 36 9 (.string ByteArray.empty) 16 Try.underlying36 Try.info9 rfl .i64 .i64 n (by omega) (by omega)
  have hg := hs.lt
  go_enter Try.func25, Try.ntmps25
  go_wp2
  go_loopw [16] (fun sl wr => ∃ k : Nat, k ≤ n ∧ sl = .int .i64 k ∧ Two w wr 9 9 n k (strs S1) (strs S2) (.string ByteArray.empty) (.string ByteArray.empty)) (fun sl _ => n - (intOf sl).toNat)
  case atStart => exact ⟨0, Nat.zero_le _, rfl, two_start _ _ _ _ _ _ _ _⟩
  case round =>
    obtain ⟨k, hk, rfl, hF⟩ := hrel
    clear hmk
    by_cases hlt : k < n
    · have hsr := below_rows hs hF.2.2 hg
      obtain ⟨e1, e2⟩ := pairs_at S1 S2 k
      have c1 := hsr.cell (i := k * 2) (by omega)
      have c2 := hsr.cell (i := k * 2 + 1) (by omega)
      rw [e1] at c1
      rw [e2] at c2
      have f1 := hF.1.frozen k
      have f2 := hF.2.1.frozen k
      have v1 := hF.1.cell hlt
      have v2 := hF.2.1.cell hlt
      have l1 := hF.1.lt
      have l2 := hF.2.1.lt
      simp only [Nat.lt_irrefl, if_false] at v1 v2
      have RF := fun o => two_step (v1 := .string (S1 k)) (v2 := .string (S2 k)) rfl rfl o hF
      have HR : Hid _ := RF
      clear hF RF hs hsr e1 e2
      generalize S1 k = s1 at *
      generalize S2 k = s2 at *
      go_wp2
      go_roundw
      case rel => exact ⟨k + 1, by omega, by go_num, HR.out _⟩
      case measure => simp [intOf]; omega
    · obtain rfl : k = n := by omega
      go_wp2
      go_ret2
      exact ⟨rfl, (two_done hF).1, (two_done hF).2, hF.2.2⟩

theorem zzTypes_any (g n c : Nat) (S1 S2 : Nat → ByteArray) (w : World) (hn : n ≤ 65536) (hs : w.rowIs g 42 (n * 2) (pairs S1 S2)) :
    Calls Try.prog 20 #[.slice (some ⟨g, 0, none⟩) n c] w fun e w' => Unzip w 9 9 n (strs S1) (strs S2) e w' := by
  have ht := typesAndIDs_any g n c S1 S2 w hn hs
  clear hs
  go_enter Try.func20, Try.ntmps20
  go_wp2_with (go_at_call 25; refine ht.mono ?_; rintro e w' ⟨rfl, h1, h2, h3⟩)
  go_ret2
  exact ⟨rfl, h1, h2, h3⟩

set_option maxRecDepth 100000 in
set_option maxHeartbeats 400000 in
theorem sameStr_any (a1 : Option Addr) (n c1 : Nat) (a2 : Option Addr) (c2 : Nat) (S : Nat → ByteArray) (w : World) (hn : n ≤ 65536) (h1 : Seen w a1 n (strs S)) (h2 : Seen w a2 n (strs S)) :
    Calls Try.prog 21 #[.slice a1 n c1, .slice a2 n c2] w fun e w' => e = .returned (.bool true) ∧ ∃ q, w' = w.drewN q := by
  go_enter Try.func21, Try.ntmps21
  go_wp2
  go_loopw [5] (fun sl wr => ∃ k q : Nat, k ≤ n ∧ sl = .int .i64 k ∧ wr = w.drewN q) (fun sl _ => n - (intOf sl).toNat)
  case atStart => exact ⟨0, 0, Nat.zero_le _, rfl, rfl⟩
  case round =>
    obtain ⟨k, q, hk, rfl, rfl⟩ := hrel
    by_cases hlt : k < n
    · obtain ⟨b1, o1, rfl, _, k1⟩ := h1.at hlt
      obtain ⟨b2, o2, rfl, _, k2⟩ := h2.at hlt
      unfold strs at k1 k2
      generalize S k = sk at *
      clear h1 h2
      go_wp2
      go_quiet (fail)
      go_wp2
      go_roundw
      case rel => exact ⟨k + 1, q + nq, by omega, by go_num, rfl⟩
      case measure => simp [intOf]; omega
    · go_wp2
      go_ret
      exact ⟨rfl, q, rfl⟩

theorem run_make_pair (n : Nat) (hn : n ≤ 65536) (w : World) : (Instr.makeSlice 40 (.int .i64 (n : Int)) (.int .i64 (n : Int))).run Try.prog w = .ok (.slice (some ⟨w.heap.size, 0, none⟩) n n) (w.alloc (.cells (madeCells #[.string ByteArray.empty, .string ByteArray.empty] (n * 2)) 42)) := by
  obtain ⟨i, hi, hz, hs, hb⟩ := info_parts (show (Try.prog.info? 42).map (fun i => (i.zero, i.size, i.bytes)) = some (some (.agg #[.string ByteArray.empty, .string ByteArray.empty]), 2, 32) by kernel_rfl)
  have hr := run_make (P := Try.prog) w 40 42 i _ Try.underlying40 hi hz .i64 .i64 n n (by omega) (Int.le_refl _) (by rw [hb]; omega) (by omega)
  simp only [Int.toNat_natCast, hs] at hr
  exact hr

/-- The aggregates, k of them written. -/
def Aggs (w wr : World) (n k : Nat) (S1 S2 : Nat → ByteArray) : Prop := wr.rowIs w.heap.size 42 (n * 2) (fun c => if c < k * 2 then pairs S1 S2 c else .string ByteArray.empty) ∧ Below w.heap.size w wr

theorem aggs_start (w : World) (n : Nat) (S1 S2 : Nat → ByteArray) : Aggs w (w.alloc (.cells (madeCells #[.string ByteArray.empty, .string ByteArray.empty] (n * 2)) 42)) n 0 S1 S2 := by
  refine ⟨⟨_, heap_alloc_new w _, size_madeCells _ _, fun c hc => ?_⟩, (Below.refl _ _).alloc (Nat.le_refl _) _⟩
  have : c % 2 = 0 ∨ c % 2 = 1 := by omega
  rcases this with h | h <;> simp [madeCells, h, hc]

theorem aggs_step {w wr : World} {n k : Nat} {S1 S2 : Nat → ByteArray} (h : Aggs w wr n k S1 S2) :
    Aggs w (((wr.setCell ⟨w.heap.size, k * 2, none⟩ (.string (S1 k))).setCell ⟨w.heap.size, k * 2 + 1, none⟩ (.string (S2 k))).drew) n (k + 1) S1 S2 := by
  obtain ⟨h1, h2⟩ := h
  obtain ⟨e1, e2⟩ := pairs_at S1 S2 k
  refine ⟨((h1.set _ _).set _ _).congr fun c _ => ?_, ((h2.setCell (Nat.le_refl _) _).setCell (Nat.le_refl _) _).drew⟩
  by_cases c1 : c = k * 2 + 1
  · rw [if_pos c1, if_pos (by omega), c1, e2]
  · by_cases c2 : c = k * 2
    · rw [if_neg c1, if_pos c2, if_pos (by omega), c2, e1]
    · rw [if_neg c1, if_neg c2]
      by_cases h : c < k * 2
      · rw [if_pos h, if_pos (by omega)]
      · rw [if_neg h, if_neg (by omega)]

theorem aggs_done {w wr : World} {n : Nat} {S1 S2 : Nat → ByteArray} (h : Aggs w wr n n S1 S2) : wr.rowIs w.heap.size 42 (n * 2) (pairs S1 S2) := h.1.congr fun c hc => by simp [hc]

set_option maxRecDepth 100000 in
set_option maxHeartbeats 400000 in
/-- Too much, or of two lengths: nothing is asked. -/
theorem ty_early (a1 : Option Addr) (n1 c1 : Nat) (a2 : Option Addr) (n2 c2 : Nat) (S1 S2 : Nat → ByteArray) (w : World) (h1 : n1 ≤ maxLen) (h2 : n2 ≤ maxLen) (hs1 : Seen w a1 n1 (strs S1)) (hs2 : Seen w a2 n2 (strs S2)) (hz1 : ∀ i, i < n1 → (S1 i).size ≤ maxLen) (hz2 : ∀ i, i < n2 → (S2 i).size ≤ maxLen)
    (hbig : ¬ (n1 ≤ 65536 ∧ n2 ≤ 65536 ∧ n1 = n2)) :
    Calls Try.prog 5 #[.slice a1 n1 c1, .slice a2 n2 c2] w fun e w' => e = .returned (.bool true) ∧ Below w.heap.size w w' := by
  have hby := tyBytes_any a1 n1 c1 a2 n2 c2 S1 S2 w h1 h2 hs1 hs2 hz1 hz2
  by_cases g1 : n1 ≤ 65536
  · by_cases g2 : n2 ≤ 65536
    · have hsb := strBytes_any a1 n1 c1 a2 n2 c2 S1 S2 w g1 g2 hs1 hs2 hz1 hz2
      have hne : ((n1 : Int) != (n2 : Int)) = true := by simp; omega
      clear hbig hs1 hs2 hz1 hz2 h1 h2
      go_enter Try.func5, Try.ntmps5
      go_wp2_with (first | (go_at_call 17; refine hby.mono ?_; rintro e w' ⟨b, rfl, rfl⟩; cases b) | (go_at_call 18; refine hsb.mono ?_; rintro e w' ⟨t, rfl, rfl⟩; by_cases ht : 1048576 < t))
      all_goals (go_ret; exact ⟨rfl, Below.refl _ _⟩)
    · unfold maxLen at h1 h2
      clear hbig hs1 hs2 hz1 hz2
      go_enter Try.func5, Try.ntmps5
      go_wp2_with (first | (go_at_call 17; refine hby.mono ?_; rintro e w' ⟨b, rfl, rfl⟩; cases b))
      all_goals (go_ret; exact ⟨rfl, Below.refl _ _⟩)
  · unfold maxLen at h1 h2
    clear hbig hs1 hs2 hz1 hz2
    go_enter Try.func5, Try.ntmps5
    go_wp2_with (first | (go_at_call 17; refine hby.mono ?_; rintro e w' ⟨b, rfl, rfl⟩; cases b))
    all_goals (go_ret; exact ⟨rfl, Below.refl _ _⟩)

set_option maxRecDepth 100000 in
set_option maxHeartbeats 1000000 in
theorem ty_main (a1 : Option Addr) (n c1 : Nat) (a2 : Option Addr) (c2 : Nat) (S1 S2 : Nat → ByteArray) (w : World) (hn : n ≤ 65536) (hs1 : Seen w a1 n (strs S1)) (hs2 : Seen w a2 n (strs S2)) (h01 : a1 = none → n = 0) (h02 : a2 = none → n = 0) (hz1 : ∀ i, i < n → (S1 i).size ≤ maxLen) (hz2 : ∀ i, i < n → (S2 i).size ≤ maxLen) :
    Calls Try.prog 5 #[.slice a1 n c1, .slice a2 n c2] w fun e w' => e = .returned (.bool true) ∧ Below w.heap.size w w' := by
  have hby := tyBytes_any a1 n c1 a2 n c2 S1 S2 w (by unfold maxLen; omega) (by unfold maxLen; omega) hs1 hs2 hz1 hz2
  have hsb := strBytes_any a1 n c1 a2 n c2 S1 S2 w hn hn hs1 hs2 hz1 hz2
  have hcl1 := cloneStr_any a1 n c1 S1 w hn h01 hs1
  have hcl2 := fun w1 (h : Below w.heap.size w w1) => cloneStr_any a2 n c2 S2 w1 hn h02 (hs2.below h)
  have hmk := run_make_pair n hn
  have H2 : Hid _ := hcl2
  clear hs1 hs2 h01 h02 hz1 hz2 hcl2
  go_enter Try.func5, Try.ntmps5
  go_wp2_with (first | (go_at_call 17; refine hby.mono ?_; rintro e w' ⟨b, rfl, rfl⟩; cases b) | (go_at_call 18; refine hsb.mono ?_; rintro e w' ⟨t, rfl, rfl⟩; by_cases ht : 1048576 < t) | (go_at_call_of 19 a1; refine hcl1.mono ?_; rintro e w1 ⟨a3, c3, rfl, hs3, hb1⟩) | (go_at_call_of 19 a2; refine (H2.out _ hb1).mono ?_; rintro e w2 ⟨a4, c4, rfl, hs4, hb2⟩))
  · go_ret
    exact ⟨rfl, Below.refl _ _⟩
  · go_ret
    exact ⟨rfl, Below.refl _ _⟩
  have hb12 : Below w.heap.size w w2 := hb1.trans (hb2.mono hb1.size)
  have hs3' := hs3.below hb2
  clear hs3 hby hsb hcl1 H2 hmk hb1 hb2
  go_loopw [6] (fun sl wr => ∃ k : Nat, k ≤ n ∧ sl = .int .i64 k ∧ Aggs w2 wr n k S1 S2) (fun sl _ => n - (intOf sl).toNat)
  case atStart => exact ⟨0, Nat.zero_le _, rfl, aggs_start _ _ _ _⟩
  case round =>
  obtain ⟨k, hk, rfl, hF⟩ := hrel
  by_cases hlt : k < n
  · obtain ⟨b3, o3, rfl, hb3, k3⟩ := (hs3'.below hF.2).at hlt
    obtain ⟨b4, o4, rfl, hb4, k4⟩ := (hs4.below hF.2).at hlt
    unfold strs at k3 k4
    have f1 := hF.1.frozen (k * 2)
    have f2 := hF.1.frozen (k * 2 + 1)
    have v1 := hF.1.cell (i := k * 2) (by omega)
    have v2 := hF.1.cell (i := k * 2 + 1) (by omega)
    have RF := aggs_step hF
    simp only [Nat.lt_irrefl, if_false] at v1
    simp only [show ¬ k * 2 + 1 < k * 2 by omega, if_false] at v2
    have HR : Hid _ := RF
    clear RF hF hs3' hs4
    generalize S1 k = s1 at *
    generalize S2 k = s2 at *
    go_wp2
    go_region
    all_goals go_wp2
    all_goals go_roundw
    case rel => exact ⟨k + 1, by omega, by go_num, HR.out⟩
    case measure => simp [intOf]; omega
  have hkn : n = k := by omega
  subst hkn
  have hag := aggs_done hF
  have hzz := zzTypes_any _ n n S1 S2 wr hn hag
  have hen1 := fun w => Lib.run_eql_slice_nil (P := Try.prog) w 36 9 (some ⟨wr.heap.size, 0, none⟩) n n 0 0 Try.underlying36
  have hen2 := fun w => Lib.run_eql_slice_nil (P := Try.prog) w 36 9 (some ⟨wr.heap.size + 1, 0, none⟩) n n 0 0 Try.underlying36
  have hb3 : Below w.heap.size w wr := hb12.trans (hF.2.mono hb12.size)
  have hs3r := hs3'.below hF.2
  have hs4r := hs4.below hF.2
  have hsm1 := fun w5 (h : Below wr.heap.size wr w5) (hr : w5.rowIs wr.heap.size 9 n (strs S1)) => sameStr_any (some ⟨wr.heap.size, 0, none⟩) n n a3 c3 S1 w5 hn (.row hr) (hs3r.below h)
  have hsm2 := fun w5 (h : Below wr.heap.size wr w5) (hr : w5.rowIs (wr.heap.size + 1) 9 n (strs S2)) q => sameStr_any (some ⟨wr.heap.size + 1, 0, none⟩) n n a4 c4 S2 (w5.drewN q) hn (.row (hr.of_block rfl)) (hs4r.below (below_drewN h q))
  have H1 : Hid _ := hsm1
  have H2 : Hid _ := hsm2
  clear hsm1 hsm2 hag hF hs3' hs4 hs3r hs4r hk
  go_wp2_with (first | (go_at_call 20; refine hzz.mono ?_; rintro e w5 ⟨rfl, r1, r2, hb5⟩) | (go_at_call_of 21 a3; refine (H1.out _ hb5 r1).mono ?_; rintro e w6 ⟨rfl, q1, rfl⟩) | (go_at_call_of 21 a4; refine (H2.out _ hb5 r2 q1).mono ?_; rintro e w6 ⟨rfl, q2, rfl⟩))
  go_ret
  exact ⟨rfl, below_drewN (hb3.trans (hb5.mono hb3.size)) _⟩
end Go.Proofs.Qxb6605586a.Sl
