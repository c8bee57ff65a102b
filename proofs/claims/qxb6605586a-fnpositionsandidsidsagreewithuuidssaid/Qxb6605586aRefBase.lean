/-
  'relay.Ref' (an id of sixteen bytes and a position) IN THE MIDDLE OF A BLOCK: built, stored, loaded.
-/
import Derived.Test.Qxb6605586aIdSame
import Derived.StillTailTactics
namespace Go.Proofs.Qxb6605586a.Sl
open Go.RowKit

/-- The cells of a slice of refs. -/
def refc (z q : Nat → Int) (c : Nat) : Value := if c % 17 < 16 then byt z (c / 17 * 16 + c % 17) else .int .i64 (q (c / 17))
/-- The seventeen cells of the k-th. -/
def refl (z q : Nat → Int) (k : Nat) : List Value := (List.range 17).map fun j => refc z q (k * 17 + j)
def refa (z q : Nat → Int) (k : Nat) : Array Value := (refl z q k).toArray

theorem length_refl (z q : Nat → Int) (k : Nat) : (refl z q k).length = 17 := by simp [refl]
theorem size_refa (z q : Nat → Int) (k : Nat) : (refa z q k).size = 17 := by simp [refa, length_refl]
theorem refl_at {z q : Nat → Int} {k j : Nat} (hj : j < 17) : (refl z q k)[j]? = some (refc z q (k * 17 + j)) := by simp [refl, hj]
theorem refc_id (z q : Nat → Int) (k j : Nat) (hj : j < 16) : refc z q (k * 17 + j) = byt z (k * 16 + j) := by
  unfold refc
  rw [show (k * 17 + j) % 17 = j by omega, show (k * 17 + j) / 17 = k by omega, if_pos hj]
theorem refc_pos (z q : Nat → Int) (k : Nat) : refc z q (k * 17 + 16) = .int .i64 (q k) := by
  unfold refc
  rw [show (k * 17 + 16) % 17 = 16 by omega, show (k * 17 + 16) / 17 = k by omega, if_neg (by omega)]
theorem refl_one (z q : Nat → Int) (k : Nat) : ∀ v ∈ refl z q k, v.oneCell' = true := by
  intro v hv
  simp only [refl, List.mem_map] at hv
  obtain ⟨j, _, rfl⟩ := hv
  unfold refc
  split <;> rfl
theorem refl_eq (z q : Nat → Int) (k : Nat) : idl z (k * 16) ++ [.int .i64 (q k)] = refl z q k := by
  apply List.ext_getElem?
  intro j
  by_cases hj : j < 16
  · rw [List.getElem?_append_left (by rw [length_idl]; exact hj), idl_at hj, refl_at (by omega), refc_id z q k j hj]
  · by_cases h16 : j = 16
    · subst h16
      rw [List.getElem?_append_right (by rw [length_idl]; omega), length_idl, refl_at (by omega), refc_pos]
      rfl
    · rw [List.getElem?_eq_none (l := refl z q k) (by rw [length_refl]; omega), List.getElem?_eq_none (by rw [List.length_append, length_idl]; simp only [List.length_singleton]; omega)]

theorem info49 : (Try.prog.info? 49).map (·.size) = some 17 := by kernel_rfl

theorem built_ref (z : Nat → Int) (c : Nat) (p : Int) : Try.prog.built 49 [(0, .agg (idv z c)), (1, .int .i64 p)] = some (idl z c ++ [Value.int .i64 p]).toArray := by kernel_rfl

theorem wpList_load_ref {ops : Array Oper} {rest : List Oper} {op : Oper} {a : Act} {w : World} {Q : Exit → Act → World → Prop} (hgd : op.guard = none) (x : Operand) (ho : op.op = .load 49 x)
    (b o : Nat) (hx : a.eval x = .pointer (some ⟨b, o, none⟩)) (z q : Nat → Int) (k : Nat) (hc : ∀ j, j < 17 → w.cell? ⟨b, o + j, none⟩ = some (refc z q (k * 17 + j)))
    (h : wpList Try.prog ops Q rest (a.put op.dst (.agg (refa z q k))) w) : wpList Try.prog ops Q (op :: rest) a w := by
  refine wpList_load_mid hgd 49 x ho b o hx (refl z q k) _ (fun j v hv => ?_) Try.underlying49 rfl (by rw [info49, length_refl]) h
  have hj : j < 17 := by have := (List.getElem?_eq_some_iff.1 hv).1; rwa [length_refl] at this
  rw [hc j hj, ← hv, refl_at hj]

/-- What a store of a ref has done. -/
def PutRef (w w1 : World) (b o : Nat) (t : TypeId) (m : Nat) (z q : Nat → Int) (k : Nat) (g : Nat → Value) : Prop :=
  w1.rowIs b t m (fun j => if o ≤ j ∧ j < o + 17 then refc z q (k * 17 + (j - o)) else g j) ∧ w1.heap.size = w.heap.size ∧ (∀ k, k ≠ b → w1.heap[k]? = w.heap[k]?) ∧ ∀ B, B ≤ b → Below B w w1

theorem putRef_of {w : World} {b o : Nat} {t : TypeId} {m : Nat} {g : Nat → Value} (z q : Nat → Int) (k : Nat) (hr : w.rowIs b t m g) : PutRef w (w.setCells b o (refl z q k)) b o t m z q k g := by
  obtain ⟨h1, h2, h3, h4, h5⟩ := setCells_heap b (refl z q k) o w
  refine ⟨(setCells_row b t m (refl z q k) o w g hr).congr fun j _ => ?_, h1, h2, fun B hB => ⟨h3, h4, h5, by rw [h1]; exact Nat.le_refl _, fun i hi => h2 i (by omega)⟩⟩
  rw [length_refl]
  by_cases hj : o ≤ j ∧ j < o + 17
  · rw [if_pos hj, if_pos hj, List.getD_eq_getElem?_getD, refl_at (by omega)]; rfl
  · rw [if_neg hj, if_neg hj]

theorem wpList_store_ref {ops : Array Oper} {rest : List Oper} {op : Oper} {a : Act} {w : World} {Q : Exit → Act → World → Prop} (hgd : op.guard = none) (x y : Operand) (ho : op.op = .store 49 x y)
    (b o : Nat) (z q : Nat → Int) (k : Nat) (hx : a.eval x = .pointer (some ⟨b, o, none⟩)) (hy : a.eval y = .agg (refa z q k)) (t : TypeId) (m : Nat) (g : Nat → Value) (hr : w.rowIs b t m g) (hm : o + 17 ≤ m)
    (h : ∀ w1, PutRef w w1 b o t m z q k g → wpList Try.prog ops Q rest (a.put op.dst undef) w1) : wpList Try.prog ops Q (op :: rest) a w := by
  refine wpList_store_mid hgd 49 x y ho b o (refa z q k) hx hy (fun j hj => ?_) (by rw [info49, size_refa]) (all_oneCell_toArray (refl_one z q k)) ?_
  · rw [size_refa] at hj
    exact ⟨by rw [hr.cell (i := o + j) (by omega)]; rfl, hr.frozen _⟩
  · have := h _ (putRef_of z q k hr)
    simpa [refa] using this

theorem still_load_id {o : Oper} {a : Act} {w : World} {K : Act → Prop} (ty : TypeId) (x : Operand) (ho : o.op = .load ty x) (b off : Nat) (hx : a.eval x = .pointer (some ⟨b, off, none⟩)) (z : Nat → Int) (c : Nat)
    (hc : ∀ j, j < 16 → w.cell? ⟨b, off + j, none⟩ = some (byt z (c + j))) (hty : Is16 ty) (hk : K (a.put o.dst (.agg (idv z c)))) : o.still Try.prog a w K := by
  obtain ⟨e, h1, h2⟩ := hty
  have hr : w.rangeAt b off (idl z c) := fun j v hv => by
    have hj : j < 16 := by have := (List.getElem?_eq_some_iff.1 hv).1; rwa [length_idl] at this
    rw [hc j hj, ← hv, idl_at hj]
  have hl := run_loadVar_mid (P := Try.prog) w b off ty (idl z c) _ hr h1 rfl (by rw [h2, length_idl])
  unfold Oper.still execOp
  simp only [ho, hx, Instr.loadAt, Instr.sureAddr, Sem.run_bind, Sem.run_pure, Result.andThen_ok, hl]
  exact ⟨rfl, hk⟩

theorem still_build_ref {o : Oper} {a : Act} {w : World} {K : Act → Prop} (x y : Operand) (ho : o.op = .build 49 #[(0, x), (1, y)]) (z q : Nat → Int) (k : Nat) (hx : a.eval x = .agg (idv z (k * 16))) (hy : a.eval y = .int .i64 (q k))
    (hk : K (a.put o.dst (.agg (refa z q k)))) : o.still Try.prog a w K := by
  have hb := run_build (P := Try.prog) w 49 #[(0, .agg (idv z (k * 16))), (1, .int .i64 (q k))] _ (built_ref z (k * 16) (q k))
  rw [refl_eq] at hb
  unfold Oper.still execOp
  simp only [ho, List.map_toArray, List.map_cons, List.map_nil, hx, hy, hb, Sem.run_bind, Result.andThen_ok, Sem.run_pure]
  exact ⟨rfl, hk⟩
end Go.Proofs.Qxb6605586a.Sl
