import Derived.Test.YtmlfecgppnffgaaDoorRJ
/- Back from the second text to the first one. -/
set_option linter.unusedVariables false
set_option linter.unusedSimpArgs false
namespace Go.Proofs.YtmlfecgppnffgaaDoor.E
open Go.Ev
theorem Pure.FnMainBack (a0 a1 : ByteArray) (_h0 : a0.size ≤ 9223372036854775807) (_h1 : a1.size ≤ 9223372036854775807) : ∃ k, callF k 4 (a0, a1, ()) = some true := by
  obtain ⟨F, hF⟩ := main_law 240 (by omega)
  obtain ⟨k, hk⟩ : ∃ k : Nat, k = F + 100000 := ⟨_, rfl⟩
  refine ⟨k + 4 + 1, ?_⟩
  show E.FnMainBack (k + 4 + 1) a0 a1 = some true
  rw [FnMainBack_eq]
  by_cases g0 : (2147483647 : Int) < a0.size
  · rw [br_lt g0, FnMainBack_j0_eq, br_true]
  · rw [br_ge (by omega), FnMainBack_j0_eq]
    by_cases g1 : (2147483647 : Int) < a1.size
    · rw [br_lt g1]
    · rw [br_ge (by omega), FnMainBack_j1_eq, isDiffText_ok _ a0 120 (by omega) (by omega) (by omega) (by omega), Option.bind_some, isDiffText_ok _ a1 120 (by omega) (by omega) (by omega) (by omega), Option.bind_some, br_not]
      cases t0 : txt 120 a0 with
      | false => rw [br_false, FnMainBack_j2_eq, br_true]
      | true =>
        rw [br_true, FnMainBack_j2_eq]
        cases t1 : txt 120 a1 with
        | false => rfl
        | true =>
          rw [Bool.not_true, br_false, FnMainBack_j3_eq]
          obtain ⟨v0, n0⟩ := txt_vt t0
          obtain ⟨v1, n1⟩ := txt_vt t1
          obtain ⟨l, e1, r1⟩ := hF a0 a1 (k + 4) v0 v1 (by omega) (by omega)
          obtain ⟨l', e2, r2⟩ := hF a1 a0 (k + 4) v1 v0 (by omega) (by omega)
          have w1 := r1.w
          have w2 := r2.w
          have c1 := wt_len l
          have c2 := wt_len l'
          obtain ⟨i1, i2⟩ := ins_del r1.ty
          obtain ⟨i3, i4⟩ := ins_del r2.ty
          have m1 := r1.mn
          have m2 := r2.mn
          rw [ed_symm] at m2
          rw [r1.s1, r1.s2] at i2
          rw [r2.s1, r2.s2] at i4
          rw [e1, Option.bind_some, diffOf_ok _ _ (by rw [enc_len]; omega) (by rw [enc_len]; omega), Option.bind_some, edits_ok _ l (by omega) r1.ok r1.ty (by omega), Option.bind_some,
            e2, Option.bind_some, diffOf_ok _ _ (by rw [enc_len]; omega) (by rw [enc_len]; omega), Option.bind_some, edits_ok _ l' (by omega) r2.ok r2.ty (by omega), Option.bind_some]
          rw [br_eq (show (insN l : Int) = (delN l' : Int) by omega), br_eq (show (delN l : Int) = (insN l' : Int) by omega), awake _ (by omega)]
          rfl
end Go.Proofs.YtmlfecgppnffgaaDoor.E
