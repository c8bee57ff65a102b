/-
  'Rows.FnHistoryKeepScriptKeepsLastRetainMessagesSaid'.
-/
import Derived.Test.Qxb6605552aRows
import Derived.WalkKit
import Derived.ProofKit
import Derived.OpenShut
import Derived.ShutString
import Derived.ChangeOld
import Derived.Below
import Derived.Deep.Matrix
import Derived.Test.Qxb6605552aHkMain
namespace Go.Proofs.Qxb6605552a.fnHistoryKeepScriptKeepsLastRetainMessages
open Go.ChangeShapes Go.WideShapes Go.ChangeAt Go.RowKit Go.Deep
open Go.ChangeMaps (open_string shut_string)
set_option linter.unusedVariables false

theorem own : ownKnob Try.prog.godebug = none := by kernel_rfl
theorem laidOut : laidOutB Try.prog = true := by kernel_rfl

/-- The walk, for every input. -/
theorem walk (R : Int) (hR : R ≤ 9223372036854775807) (a1 : Option Addr) (T c1 : Nat) (M : Nat → Int) (a2 : Option Addr) (n2 c2 : Nat) (ls : Nat → Nat) (w : World) (hT : T ≤ maxLen) (hn : n2 ≤ maxLen) (hls : ∀ i, i < n2 → ls i ≤ maxLen)
    (hm : Hk.RawInts w a1 T M) (hr : Hk.RawRows w a2 n2 ls) :
    Calls Try.prog 5 #[.int .i64 R, .slice a1 T c1, .slice a2 n2 c2] w fun e w' => e = .returned (.bool true) ∧ Below w.heap.size w w' := by
  by_cases hbig : T ≤ 65536 ∧ n2 ≤ 65536 ∧ 8 * T + 24 * n2 ≤ 1048576
  · obtain ⟨h1, h2, h3⟩ := hbig
    by_cases hneg : R < 0
    · exact Hk.law_neg R a1 T c1 a2 n2 c2 ls w hls hr h1 h2 h3 hneg
    · obtain ⟨N, rfl⟩ := Int.eq_ofNat_of_zero_le (show 0 ≤ R by omega)
      exact Hk.law_main N a1 T c1 M a2 n2 c2 ls w hls hm hr h1 h2 h3 (by omega)
  · exact Hk.law_big R a1 T c1 a2 n2 c2 ls w hT hn hls hr hbig

set_option maxRecDepth 100000 in
theorem lifted (os : Os) (started : os.Started) (H : Type) (enc : TypeId × Value → H) :
    ReturnsInHanded {} Try.checked os 5 .any (Rows.fnHistoryKeepScriptKeepsLastRetainMessagesSpec.pre6 enc Try.prog Try.f5 Rows.fnHistoryKeepScriptKeepsLastRetainMessagesRow.domain false) (Rows.fnHistoryKeepScriptKeepsLastRetainMessagesSpec.post enc Try.prog Try.f5 false true false false) := by
  refine returnsInHanded_of_change (C := Try.checked) own started (by kernel_rfl) Try.func5
    (ChangeSpec.witness6 (enc := enc) (C := Try.checked) false ⟨#[], #[.int .i64 0, .slice none 0 0, .slice none 0 0], []⟩ 8 (by kernel_rfl) (by kernel_rfl) (by kernel_rfl) (by kernel_rfl)) ?_
  intro W base args ds gs before hval0 hW hcnd _
  have hval : ∀ (j : Nat) t v, Try.f5.params[j]? = some t → args[j]? = some v → Value.okWide Try.prog W .any base t v := hval0
  have hW' := hW
  obtain ⟨p, q, hA0, hV, rfl, hfz, hnd⟩ := hW
  have hA : DataW.TrodAll enc Try.prog W 0 (fun _ => true) true Try.f5.params.toList args.toList ds p := hA0
  rw [Try.params5] at hA hval
  obtain ⟨v0, vs0, d0, ds0, p0, q0, hargs, rfl, rfl, h0, r0⟩ := trodAll_cons hA
  obtain ⟨v1, vs1, d1, ds1, p1, q1, rfl, rfl, rfl, h1, r1⟩ := trodAll_cons r0
  obtain ⟨v2, vs2, d2, ds2, p2, q2, rfl, rfl, rfl, h2, r2⟩ := trodAll_cons r1
  obtain ⟨rfl, rfl, rfl⟩ := trodAll_nil r2
  obtain rfl : args = #[v0, v1, v2] := by cases args; simp_all
  obtain ⟨rfl, rfl⟩ := trodVars_none hV
  obtain ⟨a0, rfl, rfl, rfl, w0⟩ := open_int Try.underlying3 (hval 0 3 v0 rfl rfl) h0
  obtain ⟨a1, len1, cap1, rfl⟩ := okWide_slice Try.underlying22 (hval 1 22 v1 rfl rfl)
  obtain ⟨a2, len2, cap2, rfl⟩ := okWide_slice Try.underlying28 (hval 2 28 v2 rfl rfl)
  have k1 := h1
  have k2 := h2
  have lt1 : ∀ x ∈ p1, x.block < W.heap.size := by obtain ⟨m, hm⟩ := k1; exact DataW.trod_lt m _ _ _ hm
  have lt2 : ∀ x ∈ p2, x.block < W.heap.size := by obtain ⟨m, hm⟩ := k2; exact DataW.trod_lt m _ _ _ hm
  obtain ⟨M, hT, hM⟩ : ∃ M : Nat → Int, len1 ≤ maxLen ∧ Hk.RawInts W a1 len1 M := by
    obtain ⟨fuel, hf⟩ := h1
    rcases open_ints Try.underlying22 Try.underlying3 (by kernel_rfl) hf with ⟨hcs, _⟩ | ⟨x, l, c, zs, hcs, _, hl, hm, hz, _, hcell, hwz⟩
    · simp [Value.cells] at hcs
      obtain ⟨rfl, rfl, rfl⟩ := hcs
      exact ⟨fun _ => 0, Nat.zero_le _, .inl rfl⟩
    · simp [Value.cells] at hcs
      obtain ⟨rfl, rfl, rfl⟩ := hcs
      simp only [if_true] at hz
      refine ⟨fun i => zs.getD i 0, Nat.le_trans hl hm, ?_⟩
      by_cases e : len1 = 0
      · exact .inl e
      · obtain ⟨b, off, spot⟩ := x
        have hs : spot = none := by simpa [Addr.add] using World.cell?_spot (hcell 0 (by omega))
        subst hs
        have hc : ∀ i, i < len1 → W.cell? ⟨b, off + i, none⟩ = some (.int .i64 (zs.getD i 0)) := fun i hi => by rw [← Addr.add_lit]; exact hcell i (by omega)
        exact .inr ⟨b, off, rfl, Hk.cell_lt (hc 0 (by omega)), hc⟩
  obtain ⟨ls, hn, hls, hR⟩ : ∃ ls : Nat → Nat, len2 ≤ maxLen ∧ (∀ i, i < len2 → ls i ≤ maxLen) ∧ Hk.RawRows W a2 len2 ls := by
    obtain ⟨fuel, hf⟩ := h2
    rcases open_int_rows Try.underlying28 Try.underlying29 Try.underlying5 (by kernel_rfl) (by kernel_rfl) hf with ⟨hcs, _⟩ | ⟨x, l, c, A, L, C, Z, hcs, _, hl, hm, _, hrow⟩
    · simp [Value.cells] at hcs
      obtain ⟨rfl, rfl, rfl⟩ := hcs
      exact ⟨fun _ => 0, Nat.zero_le _, fun _ _ => Nat.zero_le _, .inl ⟨rfl, rfl⟩⟩
    · simp [Value.cells] at hcs
      obtain ⟨rfl, rfl, rfl⟩ := hcs
      refine ⟨L, Nat.le_trans hl hm, fun i hi => ?_, .inr ⟨x, rfl, fun i hi => ?_⟩⟩
      · obtain ⟨_, g1, g2, _⟩ := hrow i (by omega)
        exact Nat.le_trans g1 g2
      · obtain ⟨g0, g1, g2, g3, g4, g5, g6⟩ := hrow i (by omega)
        refine ⟨_, g0, ?_⟩
        cases hAi : A i with
        | none =>
          have hC := g5 hAi
          have hL : L i = 0 := by omega
          exact .inl ⟨by rw [hC, hL], hL⟩
        | some y => exact .inr ⟨y, C i, rfl, fun j => (Z i).getD j 0, fun j hj => (g6 y hAi).2 j (by omega)⟩
  clear hA0 hval0
  refine (walk a0 (bounds_i64 w0).2 a1 len1 cap1 M a2 len2 cap2 ls W hT hn hls hM hR).mono fun e W' ⟨he, bel⟩ => ?_
  subst he
  exact ⟨_, rfl, _, _, _, [], _, [], hW', trodAll_mk1 (shut_bool Try.underlying4 _), (trodAll_cons_mk (shut_int Try.underlying3 w0) (trodAll_cons_mk (Below.trod laidOut (by kernel_rfl) (of_decide_eq_true (by kernel_rfl)) k1 bel lt1) (trodAll_cons_mk (Below.trod laidOut (by kernel_rfl) (of_decide_eq_true (by kernel_rfl)) k2 bel lt2) trodAll_mk0))), rfl, bel.frame _, fun h => by cases h⟩

theorem over : Rows.fnHistoryKeepScriptKeepsLastRetainMessagesRow.holds Try.pinned (OpenSpec.ofChange Rows.fnHistoryKeepScriptKeepsLastRetainMessagesSpec) :=
  OpenClaim.holds_of_wide 5 Try.f5 rfl rfl rfl rfl rfl rfl rfl ⟨rfl, rfl, rfl, rfl, rfl⟩ rfl rfl rfl rfl rfl (by kernel_rfl) Try.func5 (by kernel_rfl)
    (of_decide_eq_true (by kernel_rfl)) (by unfold Func.isWrapper; first | (rw [if_pos (by decide +kernel)]; kernel_rfl) | (rw [if_neg (by decide +kernel)]; exact ⟨rfl, rfl⟩))
    (fun os started H enc _ => lifted os started H enc)

/-- THE STATEMENT -/
theorem proved : Rows.FnHistoryKeepScriptKeepsLastRetainMessagesSaid := over
#print axioms proved
end Go.Proofs.Qxb6605552a.fnHistoryKeepScriptKeepsLastRetainMessages
