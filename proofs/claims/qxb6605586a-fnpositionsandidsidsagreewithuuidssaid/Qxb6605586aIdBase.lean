/-
  '[16]byte' IN THE MIDDLE OF A BLOCK: the load, the store, the comparison of one with itself.
-/
import Derived.Test.Qxb6605586aBase
import Derived.Deep.MidRow
import Derived.Laws.StructEq
namespace Go.Proofs.Qxb6605586a.Sl
open Go.RowKit

/-- Cells of bytes. -/
def byt (z : Nat → Int) (c : Nat) : Value := .int .u8 (z c)
/-- The sixteen cells from c on. -/
def idl (z : Nat → Int) (c : Nat) : List Value := (List.range 16).map fun j => byt z (c + j)
/-- An id's value: its sixteen bytes. -/
def idv (z : Nat → Int) (c : Nat) : Array Value := (idl z c).toArray

theorem length_idl (z : Nat → Int) (c : Nat) : (idl z c).length = 16 := by simp [idl]
theorem size_idv (z : Nat → Int) (c : Nat) : (idv z c).size = 16 := by simp [idv, length_idl]
theorem idl_at {z : Nat → Int} {c j : Nat} (hj : j < 16) : (idl z c)[j]? = some (byt z (c + j)) := by simp [idl, hj]
theorem idl_one (z : Nat → Int) (c : Nat) : ∀ v ∈ idl z c, v.oneCell' = true := by
  intro v hv
  simp [idl] at hv
  obtain ⟨j, _, rfl⟩ := hv
  rfl

/-- A type of sixteen bytes. -/
def Is16 (ty : TypeId) : Prop := ∃ e, Try.prog.underlying ty = some (.array 16 e) ∧ (Try.prog.info? ty).map (·.size) = some 16

theorem is46 : Is16 46 := ⟨_, Try.underlying46, by kernel_rfl⟩
theorem is47 : Is16 47 := ⟨_, Try.underlying47, by kernel_rfl⟩

theorem wpList_load_id {ops : Array Oper} {rest : List Oper} {op : Oper} {a : Act} {w : World} {Q : Exit → Act → World → Prop} (hgd : op.guard = none) (ty : TypeId) (x : Operand) (ho : op.op = .load ty x)
    (b o : Nat) (hx : a.eval x = .pointer (some ⟨b, o, none⟩)) (z : Nat → Int) (c : Nat) (hc : ∀ j, j < 16 → w.cell? ⟨b, o + j, none⟩ = some (byt z (c + j))) (hty : Is16 ty)
    (h : wpList Try.prog ops Q rest (a.put op.dst (.agg (idv z c))) w) : wpList Try.prog ops Q (op :: rest) a w := by
  obtain ⟨e, h1, h2⟩ := hty
  refine wpList_load_mid hgd ty x ho b o hx (idl z c) _ (fun j v hv => ?_) h1 rfl (by rw [h2, length_idl]) h
  have hj : j < 16 := by have := (List.getElem?_eq_some_iff.1 hv).1; rwa [length_idl] at this
  rw [hc j hj, ← hv, idl_at hj]

/-- What a store of an id has done: sixteen cells of one row; nothing else. -/
def Put (w w1 : World) (b o : Nat) (t : TypeId) (m : Nat) (z : Nat → Int) (c : Nat) (g : Nat → Value) : Prop :=
  w1.rowIs b t m (fun j => if o ≤ j ∧ j < o + 16 then byt z (c + (j - o)) else g j) ∧ w1.heap.size = w.heap.size ∧ (∀ k, k ≠ b → w1.heap[k]? = w.heap[k]?) ∧ ∀ B, B ≤ b → Below B w w1

theorem setCells_heap (b : Nat) : ∀ (vs : List Value) (o : Nat) (w : World), (w.setCells b o vs).heap.size = w.heap.size ∧ (∀ k, k ≠ b → (w.setCells b o vs).heap[k]? = w.heap[k]?) ∧ (w.setCells b o vs).os = w.os ∧ (w.setCells b o vs).tape = w.tape ∧ (w.setCells b o vs).output = w.output
  | [], _, _ => ⟨rfl, fun _ _ => rfl, rfl, rfl, rfl⟩
  | v :: r, o, w => by
    obtain ⟨h1, h2, h3, h4, h5⟩ := setCells_heap b r (o + 1) (w.setCell ⟨b, o, none⟩ v)
    refine ⟨?_, fun k hk => ?_, h3, h4, h5⟩
    · rw [World.setCells, h1]; simp [World.setCell]
    · rw [World.setCells, h2 k hk]; exact heap_setCell_other w ⟨b, o, none⟩ k v hk

theorem setCells_row (b : Nat) (t : TypeId) (m : Nat) : ∀ (vs : List Value) (o : Nat) (w : World) (g : Nat → Value), w.rowIs b t m g → (w.setCells b o vs).rowIs b t m (fun j => if o ≤ j ∧ j < o + vs.length then vs.getD (j - o) undef else g j)
  | [], o, w, g, h => h.congr fun j _ => by rw [if_neg (by simp only [List.length_nil]; omega)]
  | v :: r, o, w, g, h => by
    have ih := setCells_row b t m r (o + 1) (w.setCell ⟨b, o, none⟩ v) _ (h.set o v)
    rw [World.setCells]
    refine ih.congr fun j _ => ?_
    by_cases e : j = o
    · subst e
      rw [if_neg (by omega), if_pos rfl, if_pos (by simp), Nat.sub_self]
      rfl
    · by_cases hr : o + 1 ≤ j ∧ j < o + 1 + r.length
      · rw [if_pos hr, if_pos (by simp only [List.length_cons]; omega)]
        obtain ⟨k, hk⟩ : ∃ k, j - o = k + 1 := ⟨j - o - 1, by omega⟩
        rw [hk, show j - (o + 1) = k by omega]
        rfl
      · rw [if_neg hr, if_neg e, if_neg (by simp only [List.length_cons]; omega)]

theorem put_of {w : World} {b o : Nat} {t : TypeId} {m : Nat} {g : Nat → Value} (z : Nat → Int) (c : Nat) (hr : w.rowIs b t m g) : Put w (w.setCells b o (idl z c)) b o t m z c g := by
  obtain ⟨h1, h2, h3, h4, h5⟩ := setCells_heap b (idl z c) o w
  refine ⟨(setCells_row b t m (idl z c) o w g hr).congr fun j _ => ?_, h1, h2, fun B hB => ⟨h3, h4, h5, by rw [h1]; exact Nat.le_refl _, fun k hk => h2 k (by omega)⟩⟩
  rw [length_idl]
  by_cases hj : o ≤ j ∧ j < o + 16
  · rw [if_pos hj, if_pos hj, List.getD_eq_getElem?_getD, idl_at (by omega)]; rfl
  · rw [if_neg hj, if_neg hj]

theorem wpList_store_id {ops : Array Oper} {rest : List Oper} {op : Oper} {a : Act} {w : World} {Q : Exit → Act → World → Prop} (hgd : op.guard = none) (ty : TypeId) (x y : Operand) (ho : op.op = .store ty x y)
    (b o : Nat) (z : Nat → Int) (c : Nat) (hx : a.eval x = .pointer (some ⟨b, o, none⟩)) (hy : a.eval y = .agg (idv z c)) (t : TypeId) (m : Nat) (g : Nat → Value) (hr : w.rowIs b t m g) (hm : o + 16 ≤ m) (hty : Is16 ty)
    (h : ∀ w1, Put w w1 b o t m z c g → wpList Try.prog ops Q rest (a.put op.dst undef) w1) : wpList Try.prog ops Q (op :: rest) a w := by
  obtain ⟨e, h1, h2⟩ := hty
  refine wpList_store_mid hgd ty x y ho b o (idv z c) hx hy (fun j hj => ?_) (by rw [h2, size_idv]) (all_oneCell_toArray (idl_one z c)) ?_
  · rw [size_idv] at hj
    exact ⟨by rw [hr.cell (i := o + j) (by omega)]; rfl, hr.frozen _⟩
  · have := h _ (put_of z c hr)
    simpa [idv] using this

theorem run_neq_id (ty : TypeId) (hty : Try.prog.underlying ty = some (.array 16 5)) (z : Nat → Int) (c : Nat) (w : World) : (binOp .neq ty (.agg (idv z c)) (.agg (idv z c))).run Try.prog w = .ok (.bool false) w := by
  have hsz : ∀ w, (sizeOf 5).run Try.prog w = .ok 1 w := fun w => by
    obtain ⟨i, hi, _, hs, _⟩ := info_parts (show (Try.prog.info? 5).map (fun i => (i.zero, i.size, i.bytes)) = some (some (.int .u8 0), 1, 1) by kernel_rfl)
    simp [sizeOf, typeInfo, hi, hs]
  have he : (Op.equalIn 10000 ty (.agg (idv z c)) (.agg (idv z c))).run Try.prog w = .ok true w := by
    rw [Op.equalIn]
    simp only [Sem.run_bind, run_underlying hty, Result.andThen_ok, hsz, Std.Legacy.Range.forIn_eq_forIn_range', Std.Legacy.Range.size, Nat.sub_zero, Nat.add_sub_cancel, Nat.div_one]
    have hl : ∀ i ∈ List.range' 0 16 1, i < 16 := fun i hi => by simpa using (List.mem_range'_1.1 hi).2
    generalize List.range' 0 16 1 = l at hl ⊢
    induction l with
    | nil => simp
    | cons i l ih =>
      have hi : i < 16 := hl i (by simp)
      have px : (part 5 (idv z c) (i * 1)).run Try.prog w = .ok (byt z (c + i)) w := by
        simp [part, isAgg, run_underlying Try.underlying5, idv, idl, hi]
      have pe : (Op.equalIn (9998 + 1) 5 (byt z (c + i)) (byt z (c + i))).run Try.prog w = .ok true w := by
        unfold byt
        rw [run_equalIn_int w 9998 5 .u8 .u8 _ _ Try.underlying5]
        simp
      simp only [List.forIn_cons, Sem.run_bind, px, pe, Result.andThen_ok]
      simp only [Bool.not_true, Bool.false_eq_true, if_false, Sem.run_pure, Result.andThen_ok]
      exact ih fun j hj => hl j (by simp [hj])
  rw [run_neq_struct, he]
  rfl
end Go.Proofs.Qxb6605586a.Sl
