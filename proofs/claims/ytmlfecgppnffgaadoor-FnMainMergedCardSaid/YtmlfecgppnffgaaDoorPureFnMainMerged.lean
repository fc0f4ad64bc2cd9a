import Derived.Test.YtmlfecgppnffgaaDoorRS
/- The difference of two texts is merged. -/
set_option linter.unusedVariables false
set_option linter.unusedSimpArgs false
namespace Go.Proofs.YtmlfecgppnffgaaDoor.E
open Go.Ev
theorem Pure.FnMainMerged (a0 a1 : ByteArray) (_h0 : a0.size ≤ 9223372036854775807) (_h1 : a1.size ≤ 9223372036854775807) : ∃ k, callF k 6 (a0, a1, ()) = some true := by
  obtain ⟨F, hF⟩ := main_law2 200 (by omega)
  obtain ⟨k, hk⟩ : ∃ k : Nat, k = F + 100000 := ⟨_, rfl⟩
  refine ⟨k + 4 + 1, ?_⟩
  show E.FnMainMerged (k + 4 + 1) a0 a1 = some true
  rw [FnMainMerged_eq]
  by_cases g0 : (2147483647 : Int) < a0.size
  · rw [br_lt g0, FnMainMerged_j0_eq, br_true]
  · rw [br_ge (by omega), FnMainMerged_j0_eq]
    by_cases g1 : (2147483647 : Int) < a1.size
    · rw [br_lt g1]
    · rw [br_ge (by omega), FnMainMerged_j1_eq, isDiffText_ok _ a0 100 (by omega) (by omega) (by omega) (by omega), Option.bind_some, isDiffText_ok _ a1 100 (by omega) (by omega) (by omega) (by omega), Option.bind_some, br_not]
      cases t0 : txt 100 a0 with
      | false => rw [br_false, FnMainMerged_j2_eq, br_true]
      | true =>
        rw [br_true, FnMainMerged_j2_eq]
        cases t1 : txt 100 a1 with
        | false => rfl
        | true =>
          rw [Bool.not_true, br_false, FnMainMerged_j3_eq]
          obtain ⟨v0, n0⟩ := txt_vt t0
          obtain ⟨v1, n1⟩ := txt_vt t1
          obtain ⟨l, e1, r1, r2, r3⟩ := hF a0 a1 (k + 4) v0 v1 (by omega) (by omega)
          have w1 := r1.w
          have c1 := wt_len l
          rw [e1, Option.bind_some, diffOf_ok _ _ (by rw [enc_len]; omega) (by rw [enc_len]; omega), Option.bind_some, merged_ok _ l (by omega) r1.ok r2 r3 (by omega), Option.bind_some, br_true, awake _ (by omega)]
          rfl
end Go.Proofs.YtmlfecgppnffgaaDoor.E
