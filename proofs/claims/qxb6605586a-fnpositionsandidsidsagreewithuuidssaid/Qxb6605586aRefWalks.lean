/-
  'zzCloneInt64s', 'zzRefs', 'positionsAndIDs', 'zzSameInt64s'.
-/
import Derived.Test.Qxb6605586aRefBase
namespace Go.Proofs.Qxb6605586a.Sl
open Go.RowKit

def i64s (q : Nat → Int) (i : Nat) : Value := .int .i64 (q i)

theorem Try.info2 : (Try.prog.info? 2).map (fun i => (i.zero, i.size, i.bytes)) = some (some (.int .i64 0), 1, 8) := by kernel_rfl

/-- A new row of ints, k of its cells written. -/
def FillInt (w wr : World) (n k : Nat) (q : Nat → Int) : Prop := wr.rowIs w.heap.size 2 n (fun j => if j < k then i64s q j else .int .i64 0) ∧ Below w.heap.size w wr

theorem fillInt_start (w : World) (n : Nat) (q : Nat → Int) : FillInt w (w.alloc (.cells (madeCells #[.int .i64 0] n) 2)) n 0 q :=
  ⟨(World.rowIs_made w _ n 2).congr (fun _ _ => by simp), (Below.refl _ _).alloc (Nat.le_refl _) _⟩

theorem setInt_congr {f : Nat → Value} {z : Value} {k : Nat} (j : Nat) : (if j = k then f k else if j < k then f j else z) = (if j < k + 1 then f j else z) := by
  by_cases e : j = k
  · subst e; simp
  · by_cases h : j < k
    · simp [e, h, show j < k + 1 by omega]
    · simp [e, h, show ¬ j < k + 1 by omega]

theorem fillInt_step {w wr : World} {n k : Nat} {q : Nat → Int} (h : FillInt w wr n k q) : FillInt w (wr.setCell ⟨w.heap.size, k, none⟩ (.int .i64 (q k))) n (k + 1) q :=
  ⟨(h.1.set _ _).congr (fun j _ => setInt_congr (f := i64s q) j), h.2.setCell (Nat.le_refl _) _⟩

theorem fillInt_done {w wr : World} {n : Nat} {q : Nat → Int} (h : FillInt w wr n n q) : wr.rowIs w.heap.size 2 n (i64s q) := h.1.congr fun j hj => by simp [hj]

def ClonedInt (w : World) (n : Nat) (q : Nat → Int) (e : Ending) (w' : World) : Prop := ∃ a c, e = .returned (.slice a n c) ∧ Seen w' a n (i64s q) ∧ Below w.heap.size w w'

set_option maxRecDepth 100000 in
set_option maxHeartbeats 400000 in
theorem cloneInt_any (a : Option Addr) (n c : Nat) (q : Nat → Int) (w : World) (hn : n ≤ 65536) (h0 : a = none → n = 0) (hs : Seen w a n (i64s q)) :
    Calls Try.prog 8 #[.slice a n c] w fun e w' => ClonedInt w n q e w' := by
  have he := fun w => Lib.run_eql_slice_nil (P := Try.prog) w 22 2 a n c 0 0 Try.underlying22
  cases a with
  | none =>
    obtain rfl := h0 rfl
    clear h0
    go_enter Try.func8, Try.ntmps8
    go_wp2
    go_ret
    exact ⟨_, _, rfl, .inl rfl, Below.refl _ _⟩
  | some x =>
    clear h0
    have hmk := run_make_row' (P := Try.prog) 22 2 (.int .i64 0) 8 Try.underlying22 Try.info2 rfl .i64 .i64 n (by omega) (by omega)
    go_enter Try.func8, Try.ntmps8
    go_wp2
    go_loopw [4] (fun sl wr => ∃ k : Nat, k ≤ n ∧ sl = .int .i64 k ∧ FillInt w wr n k q) (fun sl _ => n - (intOf sl).toNat)
    case atStart => exact ⟨0, Nat.zero_le _, rfl, fillInt_start _ _ _⟩
    case round =>
      obtain ⟨k, hk, rfl, hF⟩ := hrel
      clear hmk he
      by_cases hlt : k < n
      · obtain ⟨b, off, ex, hb, hc⟩ := (hs.below hF.2).at hlt
        obtain rfl := Option.some.inj ex
        unfold i64s at hc
        have f1 := hF.1.frozen k
        have v1 := hF.1.cell hlt
        simp only [Nat.lt_irrefl, if_false] at v1
        have RF := fillInt_step hF
        have HR : Hid _ := RF
        clear hF RF hs
        generalize q k = sk at *
        go_wp2
        go_roundw
        case rel => exact ⟨k + 1, by omega, by go_num, HR.out⟩
        case measure => simp [intOf]; omega
      · obtain rfl : k = n := by omega
        clear hs
        go_wp2
        go_ret
        exact ⟨_, _, rfl, .row (fillInt_done hF), hF.2⟩

set_option maxRecDepth 100000 in
set_option maxHeartbeats 400000 in
theorem sameInt_any (a1 : Option Addr) (n c1 : Nat) (a2 : Option Addr) (c2 : Nat) (q : Nat → Int) (w : World) (hn : n ≤ 65536) (h1 : Seen w a1 n (i64s q)) (h2 : Seen w a2 n (i64s q)) :
    Calls Try.prog 12 #[.slice a1 n c1, .slice a2 n c2] w fun e w' => e = .returned (.bool true) ∧ ∃ r, w' = w.drewN r := by
  go_enter Try.func12, Try.ntmps12
  go_wp2
  go_loopw [5] (fun sl wr => ∃ k r : Nat, k ≤ n ∧ sl = .int .i64 k ∧ wr = w.drewN r) (fun sl _ => n - (intOf sl).toNat)
  case atStart => exact ⟨0, 0, Nat.zero_le _, rfl, rfl⟩
  case round =>
    obtain ⟨k, r, hk, rfl, rfl⟩ := hrel
    by_cases hlt : k < n
    · obtain ⟨b1, o1, rfl, _, k1⟩ := h1.at hlt
      obtain ⟨b2, o2, rfl, _, k2⟩ := h2.at hlt
      unfold i64s at k1 k2
      generalize q k = sk at *
      clear h1 h2
      go_wp2
      go_quiet (fail)
      go_wp2
      go_roundw
      case rel => exact ⟨k + 1, r + nq, by omega, by go_num, rfl⟩
      case measure => simp [intOf]; omega
    · go_wp2
      go_ret
      exact ⟨rfl, r, rfl⟩

/-- The zero cells of refs. -/
def refz (c : Nat) : Value := if c % 17 < 16 then .int .u8 0 else .int .i64 0
/-- What make lays for n refs. -/
def zero17 : Array Value := #[.int .u8 0, .int .u8 0, .int .u8 0, .int .u8 0, .int .u8 0, .int .u8 0, .int .u8 0, .int .u8 0, .int .u8 0, .int .u8 0, .int .u8 0, .int .u8 0, .int .u8 0, .int .u8 0, .int .u8 0, .int .u8 0, .int .i64 0]
def made17 (n : Nat) : Array Value := madeCells zero17 (n * 17)

theorem zero17_at (i : Nat) (hi : i < 17) : zero17[i]? = some (refz i) := by
  have : i = 0 ∨ i = 1 ∨ i = 2 ∨ i = 3 ∨ i = 4 ∨ i = 5 ∨ i = 6 ∨ i = 7 ∨ i = 8 ∨ i = 9 ∨ i = 10 ∨ i = 11 ∨ i = 12 ∨ i = 13 ∨ i = 14 ∨ i = 15 ∨ i = 16 := by omega
  rcases this with rfl | rfl | rfl | rfl | rfl | rfl | rfl | rfl | rfl | rfl | rfl | rfl | rfl | rfl | rfl | rfl | rfl <;> rfl

theorem made17_at {n c : Nat} (hc : c < n * 17) : (made17 n)[c]? = some (refz c) := by
  have h17 : c % 17 < 17 := Nat.mod_lt _ (by omega)
  have h := zero17_at (c % 17) h17
  have e : refz (c % 17) = refz c := by unfold refz; rw [Nat.mod_mod]
  rw [e] at h
  have hsz : zero17.size = 17 := rfl
  have hg : zero17[c % 17]! = refz c := by
    rw [getElem!_def, h]
  unfold made17 madeCells
  simp only [hsz]
  rw [Array.getElem?_map, Array.getElem?_range, if_pos hc]
  simp only [Option.map_some, hg]

theorem run_make_refs (n : Nat) (hn : n ≤ 65536) (w : World) :
    (Instr.makeSlice 27 (.int .i64 (n : Int)) (.int .i64 (n : Int))).run Try.prog w = .ok (.slice (some ⟨w.heap.size, 0, none⟩) n n) (w.alloc (.cells (made17 n) 49)) := by
  obtain ⟨i, hi, hz, hs, hb⟩ := info_parts (show (Try.prog.info? 49).map (fun i => (i.zero, i.size, i.bytes)) = some (some (.agg zero17), 17, 24) by kernel_rfl)
  have hr := run_make (P := Try.prog) w 27 49 i _ Try.underlying27 hi hz .i64 .i64 n n (by omega) (Int.le_refl _) (by rw [hb]; omega) (by omega)
  simp only [Int.toNat_natCast, hs] at hr
  exact hr

/-- The refs, k of them written. -/
def FillRef (w wr : World) (n k : Nat) (z q : Nat → Int) : Prop := wr.rowIs w.heap.size 49 (n * 17) (fun c => if c < k * 17 then refc z q c else refz c) ∧ Below w.heap.size w wr

theorem fillRef_row {w wr : World} {n k : Nat} {z q : Nat → Int} (h : FillRef w wr n k z q) : wr.rowIs w.heap.size 49 (n * 17) (fun c => if c < k * 17 then refc z q c else refz c) := h.1

theorem fillRef_start (w : World) (n : Nat) (z q : Nat → Int) : FillRef w (w.alloc (.cells (made17 n) 49)) n 0 z q :=
  ⟨⟨_, heap_alloc_new w _, by unfold made17; rw [size_madeCells], fun c hc => by rw [made17_at hc]; simp⟩, (Below.refl _ _).alloc (Nat.le_refl _) _⟩

theorem fillRef_step {w wr w1 : World} {n k : Nat} {z q : Nat → Int} (h : FillRef w wr n k z q) (hp : PutRef wr.drew w1 w.heap.size (k * 17) 49 (n * 17) z q k (fun c => if c < k * 17 then refc z q c else refz c)) : FillRef w w1 n (k + 1) z q := by
  refine ⟨hp.1.congr fun j _ => ?_, h.2.drew.trans (hp.2.2.2 _ (Nat.le_refl _))⟩
  by_cases c1 : k * 17 ≤ j ∧ j < k * 17 + 17
  · rw [if_pos c1, if_pos (by omega), show k * 17 + (j - k * 17) = j by omega]
  · rw [if_neg c1]
    show (if j < k * 17 then refc z q j else refz j) = _
    by_cases c2 : j < k * 17
    · rw [if_pos c2, if_pos (by omega)]
    · rw [if_neg c2, if_neg (by omega)]

theorem fillRef_done {w wr : World} {n : Nat} {z q : Nat → Int} (h : FillRef w wr n n z q) : wr.rowIs w.heap.size 49 (n * 17) (refc z q) := h.1.congr fun j hj => by simp [hj]

theorem wpStill_want {P : Program} {ops : Array Oper} {w : World} {Q : Act → Prop} {a : Act} {o : Oper} {rest : List Oper} (hw : Region.wanted o (yielded ops a.tmps) = true)
    (h : ∀ K : Act → Prop, (∀ a, wpStill P ops w Q rest a → K a) → o.still P a w K) : wpStill P ops w Q (o :: rest) a :=
  wpStill_step fun K hK => by rw [if_pos hw]; exact h K hK

/-- How 'zzRefs' ends. -/
def MadeRef (w : World) (n : Nat) (z q : Nat → Int) (e : Ending) (w' : World) : Prop := e = .returned (.slice (some ⟨w.heap.size, 0, none⟩) n n) ∧ w'.rowIs w.heap.size 49 (n * 17) (refc z q) ∧ Below w.heap.size w w'

set_option maxRecDepth 100000 in
set_option maxHeartbeats 400000 in
theorem refs_any (a1 : Option Addr) (n c1 : Nat) (a2 : Option Addr) (c2 : Nat) (z q : Nat → Int) (w : World) (hn : n ≤ 65536) (h1 : Seen w a1 n (i64s q)) (h2 : Seen w a2 (n * 16) (byt z)) :
    Calls Try.prog 10 #[.slice a1 n c1, .slice a2 n c2] w fun e w' => MadeRef w n z q e w' := by
  have hmk := run_make_refs n hn
  go_enter Try.func10, Try.ntmps10
  go_wp2
  go_loopw [6] (fun sl wr => ∃ k : Nat, k ≤ n ∧ sl = .int .i64 k ∧ FillRef w wr n k z q) (fun sl _ => n - (intOf sl).toNat)
  case atStart => exact ⟨0, Nat.zero_le _, rfl, fillRef_start _ _ _ _⟩
  case round =>
    obtain ⟨k, hk, rfl, hF⟩ := hrel
    clear hmk
    by_cases hlt : k < n
    · obtain ⟨b1, o1, rfl, hb1, hc1⟩ := (h1.below hF.2).at hlt
      obtain ⟨b2, o2, rfl, hb2, hc2⟩ := (h2.below hF.2).all (by omega)
      have hc2' : ∀ j, j < 16 → wr.drew.cell? ⟨b2, o2 + k * 16 + j, none⟩ = some (byt z (k * 16 + j)) := fun j hj => by rw [Nat.add_assoc]; exact hc2 _ (by omega)
      unfold i64s at hc1
      have HC : Hid (∀ j, j < 16 → wr.drew.cell? ⟨b2, o2 + k * 16 + j, none⟩ = some (byt z (k * 16 + j))) := hc2'
      have HF : Hid (FillRef w wr n k z q) := hF
      clear h1 h2 hc2 hc2' hF
      go_wp2
      refine wp_region_still_tail 12 (by kernel_rfl) (by kernel_rfl) ?_
      simp only [List.take_succ_cons, List.take_zero, List.drop_succ_cons, List.drop_zero]
      show wpStill Try.prog _ wr.drew (fun a' => wpList Try.prog _ _ _ a' wr.drew) _ _
      still_step
      still_step
      still_step
      still_step
      still_step
      refine wpStill_want rfl (fun K hK => ?_)
      refine still_load_id 46 (.tmp 20) rfl b2 (o2 + k * 16) rfl z (k * 16) HC.out is46 ?_
      go_simp
      refine hK _ ?_
      clear hK K
      still_step
      still_step
      still_step
      still_step
      refine wpStill_want rfl (fun K hK => ?_)
      refine still_build_ref (.tmp 21) (.tmp 25) rfl z q k rfl rfl ?_
      go_simp
      refine hK _ ?_
      clear hK K
      still_step
      refine wpStill_nil ?_
      refine wpList_store_ref rfl (.tmp 27) (.tmp 26) rfl w.heap.size (k * 17) z q k rfl rfl 49 (n * 17) _ (fillRef_row HF.out).drew (by omega) ?_
      intro w1 hp
      go_wp2
      go_roundw
      case rel => exact ⟨k + 1, by omega, by go_num, fillRef_step HF.out hp⟩
      case measure => simp [intOf]; omega
    · obtain rfl : k = n := by omega
      clear h1 h2
      go_wp2
      go_ret
      exact ⟨rfl, fillRef_done hF, hF.2⟩
end Go.Proofs.Qxb6605586a.Sl
