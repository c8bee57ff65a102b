/-
  'append(s, make([]T, n)...)' AND 'grow'.
-/
import Derived.Test.Qxb6600479aCut
import Derived.Laws.AppendOwn
import Derived.OwnWalk
namespace Go.Proofs.Qxb6600479a.Scr
open Go.RowKit

theorem wrap_nat (n : Nat) (h : n ≤ 1099511627776) : IntKind.i64.wrap (n : Int) = n := by
  simp [IntKind.wrap, IntKind.bits, IntKind.signed]
  omega

theorem run_append_zeros {P : Program} (w : World) (t u ty e : TypeId) (k : IntKind) (i : TypeInfo) (z : Value) (ht : P.underlying t = some (.slice e)) (hu : P.underlying u = some (.int k)) (hi : P.info? e = some i) (hz : i.zero = some z) (hs : i.size = 1) (hzc : z.cells = #[z])
    (ao : Option Addr) (sLen sCap : Nat) (olds : List Value) (hf : (Builtin.firstCells 1 sLen (.slice ao sLen sCap)).run P w.drew = .ok olds.toArray w.drew) (n : Nat) (hn : 0 < n) (hg : sCap < sLen + n) (h63 : sLen + n ≤ 1099511627776) (hb : (sLen + n) * i.bytes ≤ 140737488355328) :
    (Builtin.append_ #[t, u] ty #[.slice ao sLen sCap, .int .i64 (n : Int)]).run P w =
      .ok (.slice (some ⟨w.heap.size, 0, none⟩) (sLen + n) (grownCap w (sLen + n) sCap e))
        (w.drew.alloc (.cells (olds.toArray ++ Builtin.zeroCells #[z] n ++ Builtin.zeroCells #[z] (grownCap w (sLen + n) sCap e - (sLen + n))) e)) := by
  have h1 : ¬ (sLen + n ≤ sCap) := by omega
  have h2 : ¬ (9223372036854775807 < ((sLen : Int) + (n : Int))) := by omega
  have h3 : ¬ (281474976710656 < Builtin.nextslicecap (sLen + n) sCap * i.bytes) := by have := growslice_fits hg hb; omega
  have h4 : ¬ ((n : Int) < 0) := by omega
  have h5 : ¬ (281474976710656 < (n : Int) * (i.bytes : Int)) := by
    have h6 : n * i.bytes ≤ (sLen + n) * i.bytes := Nat.mul_le_mul_right _ (by omega)
    have h7 : ((n * i.bytes : Nat) : Int) ≤ 140737488355328 := by omega
    rw [Int.natCast_mul] at h7
    omega
  have h8 : n ≠ 0 := by omega
  have hw := wrap_nat n (by omega)
  simp [Builtin.append_, run_underlying ht, run_underlying hu, sizeOf, typeInfo, zeroValue, hi, hz, hs, hzc, asInt, asIntOf, hw, h1, h2, h3, h4, h5, h8, Question.forced, hf, newRow, grownCap]

/-- What lies behind a grown slice: the old cells, then zeros. -/
def more (n : Nat) (f : Nat → Value) (z : Value) (j : Nat) : Value := if j < n then f j else z

theorem append_own {P : Program} (B : Nat) (w : World) (t u ty e : TypeId) (k : IntKind) (z : Value) (by_ : Nat) (ht : P.underlying t = some (.slice e)) (hu : P.underlying u = some (.int k)) (hi : (P.info? e).map (fun i => (i.zero, i.size, i.bytes)) = some (some z, 1, by_)) (hzc : z.cells = #[z])
    (a : Option Addr) (n y : Nat) (f : Nat → Value) (hO : Own B w e a n n f) (hk : n < y) (hy : y ≤ 1048576) (hby : by_ ≤ 64) :
    ∃ G w1, (Builtin.append_ #[t, u] ty #[.slice a n n, .int .i64 ((y : Int) - (n : Int))]).run P w = .ok (.slice (some ⟨w.heap.size, 0, none⟩) y G) w1 ∧ y ≤ G ∧ w1.rowIs w.heap.size e G (more n f z) ∧ Below w.heap.size w w1 := by
  obtain ⟨i, h1, h2, h3, h4⟩ := info_parts hi
  obtain ⟨m, rfl⟩ : ∃ m, y = n + m := ⟨y - n, by omega⟩
  have hf : (Builtin.firstCells 1 n (.slice a n n)).run P w.drew = .ok ((List.range n).map f).toArray w.drew := by
    rcases hO with ⟨rfl, rfl, _⟩ | ⟨g, rfl, _, _, hr⟩
    · exact run_firstCells_none _ _ _ _ _
    · refine run_firstCells_some (P := P) w.drew 1 n _ n n _ (by simp) fun j v hj => ?_
      have hjn : j < n := by simpa using (List.getElem?_eq_some_iff.1 hj).1
      simp [hjn] at hj
      rw [← hj, Addr.add_lit, Nat.zero_add]
      exact hr.cell hjn
  have hbb : (n + m) * i.bytes ≤ 140737488355328 := by
    rw [h4]
    calc (n + m) * by_ ≤ 1048576 * 64 := Nat.mul_le_mul hy hby
      _ ≤ _ := by omega
  have hr := run_append_zeros (P := P) w t u ty e k i z ht hu h1 h2 h3 hzc a n n _ hf m (by omega) (by omega) (by omega) hbb
  have hge := grownCap_ge w (n + m) n e
  rw [show (((n + m : Nat) : Int) - (n : Int)) = (m : Int) by omega]
  generalize grownCap w (n + m) n e = G at *
  refine ⟨G, _, hr, hge, ⟨_, heap_alloc_new w.drew _, by simp [Builtin.zeroCells]; omega, fun j hj => ?_⟩, (Below.refl _ w).drew.alloc (Nat.le_refl _) _⟩
  unfold more
  by_cases c1 : j < n
  · simp [c1, Array.getElem?_append]
  · by_cases c2 : j - n < m
    · simp [c1, Array.getElem?_append, Builtin.zeroCells, c2, Nat.mod_one]
    · simp [c1, Array.getElem?_append, Builtin.zeroCells, c2, Nat.mod_one, show j - n - m < G - (n + m) by omega]

theorem Own.lt {B : Nat} {w : World} {t : TypeId} {a : Option Addr} {n c : Nat} {f : Nat → Value} (h : Own B w t a n c f) {g : Nat} (e : a = some ⟨g, 0, none⟩) : g < w.heap.size := by
  rcases h with ⟨rfl, _⟩ | ⟨g', rfl, _, _, hr⟩
  · cases e
  · cases e; exact hr.lt

/-- The cells lie in a new row, and the box says so. -/
theorem Ln.reCells {B : Nat} {w w1 : World} {bx : Nat} {ca : Option Addr} {cn cc : Nat} {ma : Option Addr} {mn mc : Nat} {fill : Int} {C C' : Nat → Int} {S : Nat → ByteArray} {y G : Nat} (h : Ln B w bx ca cn cc ma mn mc fill C S) (hb : Below w.heap.size w w1) (hy : y ≤ G) (hr : w1.rowIs w.heap.size 21 G (runes C')) :
    Ln B (w1.setCell ⟨bx, 0, none⟩ (.slice (some ⟨w.heap.size, 0, none⟩) y G)) bx (some ⟨w.heap.size, 0, none⟩) y G ma mn mc fill C' S := by
  have hlt := h.box.lt
  have hB := h.hB
  refine ⟨h.hB, ((h.box.of_block (hb.block _ hlt)).set _ _).congr fun j hj => ?_, .inr ⟨_, rfl, by omega, hy, hr.setOther (show w.heap.size ≠ bx by omega) _⟩, h.marks.same fun g hg => ?_, ⟨fun g e => by cases e; omega, h.apart.2.1, fun g m e1 e2 => by cases e1; have := h.marks.lt e2; omega⟩⟩
  · match j, hj with
    | 0, _ => rfl
    | 1, _ => rfl
    | 2, _ => rfl
  · rw [heap_setCell_other _ _ g _ (h.apart.2.1 g hg)]
    exact hb.block g (h.marks.lt hg)

theorem Ln.reMarks {B : Nat} {w w1 : World} {bx : Nat} {ca : Option Addr} {cn cc : Nat} {ma : Option Addr} {mn mc : Nat} {fill : Int} {C : Nat → Int} {S S' : Nat → ByteArray} {y G : Nat} (h : Ln B w bx ca cn cc ma mn mc fill C S) (hb : Below w.heap.size w w1) (hy : y ≤ G) (hr : w1.rowIs w.heap.size 9 G (strs S')) :
    Ln B (w1.setCell ⟨bx, 1, none⟩ (.slice (some ⟨w.heap.size, 0, none⟩) y G)) bx ca cn cc (some ⟨w.heap.size, 0, none⟩) y G fill C S' := by
  have hlt := h.box.lt
  have hB := h.hB
  refine ⟨h.hB, ((h.box.of_block (hb.block _ hlt)).set _ _).congr fun j hj => ?_, h.cells.same fun g hg => ?_, .inr ⟨_, rfl, by omega, hy, hr.setOther (show w.heap.size ≠ bx by omega) _⟩, ⟨h.apart.1, fun g e => by cases e; omega, fun g m e1 e2 => by cases e2; have := h.cells.lt e1; omega⟩⟩
  · match j, hj with
    | 0, _ => rfl
    | 1, _ => rfl
    | 2, _ => rfl
  · rw [heap_setCell_other _ _ g _ (h.apart.1 g hg)]
    exact hb.block g (h.cells.lt hg)

def mC (n : Nat) (C : Nat → Int) (j : Nat) : Int := if j < n then C j else 0
def mS (n : Nat) (S : Nat → ByteArray) (j : Nat) : ByteArray := if j < n then S j else ByteArray.empty
theorem more_runes (n : Nat) (C : Nat → Int) : more n (runes C) (.int .i32 0) = runes (mC n C) := by funext j; unfold more runes mC; split <;> rfl
theorem more_strs (n : Nat) (S : Nat → ByteArray) : more n (strs S) (.string ByteArray.empty) = strs (mS n S) := by funext j; unfold more strs mS; split <;> rfl

theorem Try.info21 : (Try.prog.info? 21).map (fun i => (i.zero, i.size, i.bytes)) = some (some (.int .i32 0), 1, 4) := by kernel_rfl
theorem Try.info9 : (Try.prog.info? 9).map (fun i => (i.zero, i.size, i.bytes)) = some (some (.string ByteArray.empty), 1, 16) := by kernel_rfl

theorem wpList_append_eq {P : Program} {w : World} {ops : Array Oper} {rest : List Oper} {o : Oper} {a : Act} {Q : Exit → Act → World → Prop}
    (hg : o.guard = none) (s x : Operand) (t u : TypeId) (hop : o.op = Op.call { callee := Callee.builtin Builtin.append, args := #[s, x], argTypes := #[t, u] })
    {vs vx v : Value} {w' : World} (hrun : (Builtin.append_ #[t, u] o.type #[vs, vx]).run P w = .ok v w') (hs : a.eval s = vs) (hx : a.eval x = vx)
    (hK : wpList P ops Q rest (a.put o.dst v) w') : wpList P ops Q (o :: rest) a w := by
  refine wpList_plain hg fun K hK' => ?_
  unfold Oper.wp
  simp [execOp, hop, resolve, invoke, builtin, hs, hx, hrun, Result.andThen]
  exact hK' _ _ hK

/-- How 'grow' ends: the line has y cells, and as many marks or none. -/
def GrowEnd (B : Nat) (w : World) (bx y : Nat) (ma : Option Addr) (C : Nat → Int) (S : Nat → ByteArray) (e : Ending) (w' : World) : Prop :=
  ∃ ca cc ma' mn mc, e = .returned (.tuple #[]) ∧ Ln B w' bx ca y cc ma' mn mc 0 C S ∧ (ma' = none ↔ ma = none) ∧ (ma' = none ∨ mn = y) ∧ Below B w w'

set_option maxRecDepth 100000 in
set_option maxHeartbeats 1000000 in
theorem grow_same (B : Nat) (w : World) (bx : Nat) (ca : Option Addr) (cn : Nat) (ma : Option Addr) (mn : Nat) (C : Nat → Int) (S : Nat → ByteArray) (y : Nat) (hy : y ≤ cn) (hn : cn ≤ 1048576) (hfit : ma = none ∨ mn = cn) (hl : Ln B w bx ca cn cn ma mn mn 0 C S) :
    Calls Try.prog 29 #[.pointer (some ⟨bx, 0, none⟩), .int .i64 y] w fun e w' => GrowEnd B w bx cn ma (mC cn C) (mS cn S) e w' := by
  obtain ⟨b0, b1, b2⟩ := hl.facts
  have hbx := hl.bel
  have hend : GrowEnd B w bx cn ma (mC cn C) (mS cn S) (.returned (.tuple #[])) w := by
    refine ⟨ca, cn, ma, mn, mn, rfl, ⟨hl.hB, hl.box, hl.cells.congr fun i hi => by simp [runes, mC, hi], ?_, hl.apart⟩, Iff.rfl, hfit, Below.refl _ _⟩
    rcases hfit with rfl | rfl
    · rcases hl.marks with h | ⟨g, h, _⟩
      · exact .inl h
      · cases h
    · exact hl.marks.congr fun i hi => by simp [strs, mS, hi]
  clear hl hfit
  generalize mC cn C = C1 at *
  generalize mS cn S = S1 at *
  go_enter Try.func29, Try.ntmps29
  go_wp2
  go_end0
  exact hend

set_option maxRecDepth 100000 in
set_option maxHeartbeats 1000000 in
theorem grow_more (B : Nat) (w : World) (bx : Nat) (ca : Option Addr) (cn : Nat) (ma : Option Addr) (mn : Nat) (C : Nat → Int) (S : Nat → ByteArray) (y : Nat) (hy : cn < y) (hn : y ≤ 1048576) (hfit : ma = none ∨ mn = cn) (hl : Ln B w bx ca cn cn ma mn mn 0 C S) :
    Calls Try.prog 29 #[.pointer (some ⟨bx, 0, none⟩), .int .i64 y] w fun e w' => GrowEnd B w bx y ma (mC cn C) (mS cn S) e w' := by
  obtain ⟨b0, b1, b2⟩ := hl.facts
  have hbx := hl.bel
  obtain ⟨G, w1, hap, hG, hr, hb1⟩ := append_own (P := Try.prog) B w 22 3 22 21 .i64 (.int .i32 0) 4 Try.underlying22 Try.underlying3 Try.info21 rfl ca cn y (runes C) hl.cells hy hn (by omega)
  rw [more_runes] at hr
  have hbox := hl.box.of_block (hb1.block _ hbx)
  have c0 := hbox.cell (i := 0) (by omega)
  have c1 := hbox.cell (i := 1) (by omega)
  have c2 := hbox.cell (i := 2) (by omega)
  simp only [fld] at c0 c1 c2
  have z0 := hbox.frozen 0
  have z1 := hbox.frozen 1
  have z2 := hbox.frozen 2
  have hbx1 := hbox.lt
  have hl3 := (hl.reCells hb1 hG hr).setFill 0
  have hbB : Below B w ((w1.setCell ⟨bx, 0, none⟩ (.slice (some ⟨w.heap.size, 0, none⟩) y G)).setCell ⟨bx, 2, none⟩ (.int .i32 0)) := ((hb1.mono (by have := hl.hB; omega)).setCell hl.hB _).setCell hl.hB _
  have hne := fun w => run_neq_slice_nil_any (P := Try.prog) w 23 9 ma mn mn 0 0 Try.underlying23
  have hm0 := hl.marks
  generalize mC cn C = C1 at *
  clear hl hb1 hr hbox
  rcases hm0 with ⟨rfl, rfl, _⟩ | ⟨m, rfl, hm, _, hmr⟩
  · have hend : GrowEnd B w bx y none C1 (mS cn S) (.returned (.tuple #[])) ((w1.setCell ⟨bx, 0, none⟩ (.slice (some ⟨w.heap.size, 0, none⟩) y G)).setCell ⟨bx, 2, none⟩ (.int .i32 0)) :=
      ⟨_, _, none, 0, 0, rfl, ⟨hl3.hB, hl3.box, hl3.cells, .inl ⟨rfl, rfl, rfl⟩, hl3.apart⟩, Iff.rfl, .inl rfl, hbB⟩
    have HE : Hid (GrowEnd B w bx y none C1 (mS cn S) (.returned (.tuple #[])) ((w1.setCell ⟨bx, 0, none⟩ (.slice (some ⟨w.heap.size, 0, none⟩) y G)).setCell ⟨bx, 2, none⟩ (.int .i32 0))) := hend
    clear hl3 hbB hfit hend
    go_enter Try.func29, Try.ntmps29
    go_wp2_with (at_builtin; refine wpList_append_eq rfl _ _ 22 3 rfl hap rfl rfl ?_)
    go_end0
    exact HE.out
  · have hmn : mn = cn := by
      rcases hfit with h | h
      · cases h
      · exact h
    subst hmn
    obtain ⟨G2, w2, hap2, hG2, hr2, hb2⟩ := append_own (P := Try.prog) B _ 23 3 23 9 .i64 (.string ByteArray.empty) 16 Try.underlying23 Try.underlying3 Try.info9 rfl (some ⟨m, 0, none⟩) mn y (strs S) hl3.marks hy hn (by omega)
    rw [more_strs] at hr2
    have hl4 := hl3.reMarks hb2 hG2 hr2
    have hbox2 := hl3.box.of_block (hb2.block _ hl3.box.lt)
    have e1 := hbox2.cell (i := 1) (by omega)
    simp only [fld] at e1
    have y1 := hbox2.frozen 1
    have hbx2 := hbox2.lt
    have hb4 := (hbB.trans (hb2.mono (Nat.le_trans hl3.hB (Nat.le_of_lt hl3.box.lt)))).setCell (p := ⟨bx, 1, none⟩) hl3.hB (.slice (some ⟨w1.heap.size, 0, none⟩) y G2)
    have hsz : ((w1.setCell ⟨bx, 0, none⟩ (.slice (some ⟨w.heap.size, 0, none⟩) y G)).setCell ⟨bx, 2, none⟩ (.int .i32 0)).heap.size = w1.heap.size := by simp
    rw [hsz] at hl4
    have HE : Hid (GrowEnd B w bx y (some ⟨m, 0, none⟩) C1 (mS mn S) (.returned (.tuple #[])) (w2.setCell ⟨bx, 1, none⟩ (.slice (some ⟨w1.heap.size, 0, none⟩) y G2))) := ⟨_, _, _, _, _, rfl, hl4, by simp, .inr rfl, hb4⟩
    clear hl3 hbB hl4 hbox2 hmr hr2 hb2 hb4 hsz hfit
    go_enter Try.func29, Try.ntmps29
    go_wp2_with (first | (at_builtin; refine wpList_append_eq rfl _ _ 22 3 rfl hap rfl rfl ?_) | (at_builtin; refine wpList_append_eq rfl _ _ 23 3 rfl hap2 rfl rfl ?_))
    go_end0
    exact HE.out
end Go.Proofs.Qxb6600479a.Scr
