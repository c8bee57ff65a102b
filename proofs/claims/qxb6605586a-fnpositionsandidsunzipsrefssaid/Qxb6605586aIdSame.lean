/-
  'zzSameIDs', 'ZZUUIDs', 'zzBytes_FnUUIDsKeepsEveryIDInOrder'.
-/
import Derived.Test.Qxb6605586aIdWalks
namespace Go.Proofs.Qxb6605586a.Sl
open Go.RowKit

theorem quiet_load_id {o : Oper} {a : Act} {C : World → Prop} {K : Act → Prop} (ty : TypeId) (x : Operand) (ho : o.op = .load ty x) (b off : Nat) (hx : a.eval x = .pointer (some ⟨b, off, none⟩)) (z : Nat → Int) (c : Nat)
    (hc : ∀ w, C w → ∀ j, j < 16 → w.cell? ⟨b, off + j, none⟩ = some (byt z (c + j))) (hty : Is16 ty) (hk : K (a.put o.dst (.agg (idv z c)))) : o.quiet Try.prog a C K := by
  obtain ⟨e, h1, h2⟩ := hty
  refine ⟨_, fun w hw => ?_, hk⟩
  have hr : w.rangeAt b off (idl z c) := fun j v hv => by
    have hj : j < 16 := by have := (List.getElem?_eq_some_iff.1 hv).1; rwa [length_idl] at this
    rw [hc w hw j hj, ← hv, idl_at hj]
  have hl := run_loadVar_mid (P := Try.prog) w b off ty (idl z c) _ hr h1 rfl (by rw [h2, length_idl])
  unfold Oper.quietAt execOp
  simp only [ho, hx, Instr.loadAt, Instr.sureAddr, Sem.run_bind, Sem.run_pure, Result.andThen_ok, hl]
  exact ⟨rfl, rfl⟩

theorem drewN_cells {w : World} {b off c : Nat} {z : Nat → Int} (h : ∀ j, j < 16 → w.cell? ⟨b, off + j, none⟩ = some (byt z (c + j))) : ∀ w', (∃ n, w' = w.drewN n) → ∀ j, j < 16 → w'.cell? ⟨b, off + j, none⟩ = some (byt z (c + j)) := by
  rintro w' ⟨n, rfl⟩ j hj
  exact h j hj

set_option maxRecDepth 100000 in
set_option maxHeartbeats 400000 in
theorem sameId_any (a1 : Option Addr) (n c1 : Nat) (a2 : Option Addr) (c2 : Nat) (z : Nat → Int) (w : World) (hn : n ≤ 65536) (h1 : Seen w a1 (n * 16) (byt z)) (h2 : Seen w a2 (n * 16) (byt z)) :
    Calls Try.prog 13 #[.slice a1 n c1, .slice a2 n c2] w fun e w' => e = .returned (.bool true) ∧ ∃ q, w' = w.drewN q := by
  go_enter Try.func13, Try.ntmps13
  go_wp2
  go_loopw [5] (fun sl wr => ∃ k q : Nat, k ≤ n ∧ sl = .int .i64 k ∧ wr = w.drewN q) (fun sl _ => n - (intOf sl).toNat)
  case atStart => exact ⟨0, 0, Nat.zero_le _, rfl, rfl⟩
  case round =>
    obtain ⟨k, q, hk, rfl, rfl⟩ := hrel
    by_cases hlt : k < n
    · obtain ⟨b1, o1, rfl, _, k1⟩ := h1.all (by omega)
      obtain ⟨b2, o2, rfl, _, k2⟩ := h2.all (by omega)
      have hc1 : ∀ j, j < 16 → w.cell? ⟨b1, o1 + k * 16 + j, none⟩ = some (byt z (k * 16 + j)) := fun j hj => by rw [Nat.add_assoc]; exact k1 _ (by omega)
      have hc2 : ∀ j, j < 16 → w.cell? ⟨b2, o2 + k * 16 + j, none⟩ = some (byt z (k * 16 + j)) := fun j hj => by rw [Nat.add_assoc]; exact k2 _ (by omega)
      have hne := run_neq_id 46 Try.underlying46 z (k * 16)
      have H1 : Hid (∀ j, j < 16 → w.cell? ⟨b1, o1 + k * 16 + j, none⟩ = some (byt z (k * 16 + j))) := hc1
      have H2 : Hid (∀ j, j < 16 → w.cell? ⟨b2, o2 + k * 16 + j, none⟩ = some (byt z (k * 16 + j))) := hc2
      clear h1 h2 k1 k2 hc1 hc2
      go_wp2
      refine wp_region_quiet_lit (by kernel_rfl) (by kernel_rfl) ?_
      go_big_quiet_step (fail)
      go_big_quiet_step (fail)
      go_big_quiet_step (fail)
      go_big_quiet_want
      refine quiet_load_id 46 (.tmp 19) rfl b1 (o1 + k * 16) rfl z (k * 16) (drewN_cells (w := w.drewN q) H1.out) is46 ?_
      go_simp
      go_big_quiet_on
      go_big_quiet_step (fail)
      go_big_quiet_step (fail)
      go_big_quiet_step (fail)
      go_big_quiet_want
      refine quiet_load_id 46 (.tmp 23) rfl b2 (o2 + k * 16) rfl z (k * 16) (drewN_cells (w := w.drewN q) H2.out) is46 ?_
      go_simp
      go_big_quiet_on
      go_big_quiet_step (fail)
      refine wpQuiet_nil ?_
      intro _ hw'
      obtain ⟨nq, hw''⟩ := hw'
      subst hw''
      go_wp2
      go_roundw
      case rel => exact ⟨k + 1, q + nq, by omega, by go_num, rfl⟩
      case measure => simp [intOf]; omega
    · go_wp2
      go_ret
      exact ⟨rfl, q, rfl⟩
end Go.Proofs.Qxb6605586a.Sl
