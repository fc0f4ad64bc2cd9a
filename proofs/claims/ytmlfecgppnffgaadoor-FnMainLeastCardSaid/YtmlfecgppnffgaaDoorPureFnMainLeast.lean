import Derived.Test.YtmlfecgppnffgaaDoorRK
/- The difference of two texts is least. -/
set_option linter.unusedVariables false
set_option linter.unusedSimpArgs false
namespace Go.Proofs.YtmlfecgppnffgaaDoor.E
open Go.Ev
theorem Pure.FnMainLeast (a0 a1 : ByteArray) (_h0 : a0.size ≤ 9223372036854775807) (_h1 : a1.size ≤ 9223372036854775807) : ∃ k, callF k 5 (a0, a1, ()) = some true := by
  obtain ⟨F, hF⟩ := main_law 120 (by omega)
  obtain ⟨k, hk⟩ : ∃ k : Nat, k = F + 100000 := ⟨_, rfl⟩
  refine ⟨k + 4 + 1, ?_⟩
  show E.FnMainLeast (k + 4 + 1) a0 a1 = some true
  rw [FnMainLeast_eq]
  by_cases g0 : (2147483647 : Int) < a0.size
  · rw [br_lt g0, FnMainLeast_j0_eq, br_true]
  · rw [br_ge (by omega), FnMainLeast_j0_eq]
    by_cases g1 : (2147483647 : Int) < a1.size
    · rw [br_lt g1]
    · rw [br_ge (by omega), FnMainLeast_j1_eq, isDiffText_ok _ a0 60 (by omega) (by omega) (by omega) (by omega), Option.bind_some, isDiffText_ok _ a1 60 (by omega) (by omega) (by omega) (by omega), Option.bind_some, br_not]
      cases t0 : txt 60 a0 with
      | false => rw [br_false, FnMainLeast_j2_eq, br_true]
      | true =>
        rw [br_true, FnMainLeast_j2_eq]
        cases t1 : txt 60 a1 with
        | false => rfl
        | true =>
          rw [Bool.not_true, br_false, FnMainLeast_j3_eq]
          obtain ⟨v0, n0⟩ := txt_vt t0
          obtain ⟨v1, n1⟩ := txt_vt t1
          obtain ⟨l, e1, r1⟩ := hF a0 a1 (k + 4) v0 v1 (by omega) (by omega)
          have w1 := r1.w
          have c1 := wt_len l
          obtain ⟨i1, i2⟩ := ins_del r1.ty
          have m1 := r1.mn
          have hsum := ed_le_sum (runesI a0) (runesI a1)
          have hmul : (runesI a0).length * (2 * (runesI a1).length + 4) ≤ 60 * 124 := Nat.mul_le_mul (by omega) (by omega)
          rw [e1, Option.bind_some, diffOf_ok _ _ (by rw [enc_len]; omega) (by rw [enc_len]; omega), Option.bind_some, edits_ok _ l (by omega) r1.ok r1.ty (by omega), Option.bind_some, least_ok _ a0 a1 (by omega) (by omega) (by omega), Option.bind_some, wrap_id (by omega) (by omega)]
          rw [br_eq (show (insN l : Int) + (delN l : Int) = (ed (runesI a0) (runesI a1) : Int) by omega), awake _ (by omega)]
          rfl
end Go.Proofs.YtmlfecgppnffgaaDoor.E
