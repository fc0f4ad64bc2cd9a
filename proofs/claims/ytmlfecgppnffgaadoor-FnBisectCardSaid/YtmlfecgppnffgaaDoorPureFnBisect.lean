import Derived.Test.YtmlfecgppnffgaaDoorRL
/- A bisection leads from one text to the other one, and is least. -/
set_option linter.unusedVariables false
set_option linter.unusedSimpArgs false
namespace Go.Proofs.YtmlfecgppnffgaaDoor.E
open Go.Ev
theorem Pure.FnBisect (a0 a1 : ByteArray) (_h0 : a0.size ≤ 9223372036854775807) (_h1 : a1.size ≤ 9223372036854775807) : ∃ k, callF k 11 (a0, a1, ()) = some true := by
  obtain ⟨F, hF⟩ := bisect_law 120 (by omega)
  obtain ⟨k, hk⟩ : ∃ k : Nat, k = F + 500000 := ⟨_, rfl⟩
  refine ⟨k + 4 + 1, ?_⟩
  show E.FnBisect (k + 4 + 1) a0 a1 = some true
  rw [FnBisect_eq]
  by_cases g0 : (2147483647 : Int) < a0.size
  · rw [br_lt g0, FnBisect_j0_eq, br_true]
  · rw [br_ge (by omega), FnBisect_j0_eq]
    by_cases g1 : (2147483647 : Int) < a1.size
    · rw [br_lt g1]
    · rw [br_ge (by omega), FnBisect_j1_eq, eqS_iff, eqS_iff, isDiffText_ok _ a0 60 (by omega) (by omega) (by omega) (by omega), Option.bind_some, isDiffText_ok _ a1 60 (by omega) (by omega) (by omega) (by omega), Option.bind_some, br_not, br_not]
      cases decide (a0 = (⟨#[]⟩ : ByteArray)) with
      | true => rw [br_true, FnBisect_j2_eq, br_true]
      | false =>
        cases decide (a1 = (⟨#[]⟩ : ByteArray)) with
        | true => rw [br_false, br_true, FnBisect_j2_eq, br_true]
        | false =>
          rw [br_false, br_false]
          cases t0 : txt 60 a0 with
          | false => rw [br_false, FnBisect_j2_eq, br_true]
          | true =>
            rw [br_true]
            cases t1 : txt 60 a1 with
            | false => rw [br_false, FnBisect_j2_eq, br_true]
            | true =>
              obtain ⟨v0, n0⟩ := txt_vt t0
              obtain ⟨v1, n1⟩ := txt_vt t1
              have e3 : RuneCountInString (k + 4) a0 = some ((runesI a0).length : Int) := by
                have := count_ok (k + 4) v0.okl (by omega) (by omega)
                rwa [v0.back] at this
              have e4 : RuneCountInString (k + 4) a1 = some ((runesI a1).length : Int) := by
                have := count_ok (k + 4) v1.okl (by omega) (by omega)
                rwa [v1.back] at this
              rw [br_true, e3, Option.bind_some, e4, Option.bind_some, wrap_id (by omega) (by omega), FnBisect_j2_eq]
              by_cases h3 : ((runesI a0).length : Int) + ((runesI a1).length : Int) < 3
              · rw [br_lt h3]
              · rw [br_ge (by omega), FnBisect_j3_eq]
                obtain ⟨l, e, o, t, s1, s2, m, w⟩ := hF a0 a1 (k + 4) v0 v1 (by omega) (by omega) (by omega)
                have c1 := wt_len l
                have hsum := ed_le_sum (runesI a0) (runesI a1)
                obtain ⟨i1, i2⟩ := ins_del t
                have hmul : (runesI a0).length * (2 * (runesI a1).length + 4) ≤ 60 * 124 := Nat.mul_le_mul (by omega) (by omega)
                rw [e, Option.bind_some, diffOf_ok _ _ (by rw [enc_len]; omega) (by rw [enc_len]; omega), Option.bind_some, edits_ok _ l (by omega) o t (by omega), Option.bind_some, leads_ok _ l a0 a1 v0 v1 (by omega) o s1 s2 (by omega), Option.bind_some, br_true, least_ok _ a0 a1 (by omega) (by omega) (by omega), Option.bind_some, wrap_id (by omega) (by omega)]
                rw [br_eq (show (insN l : Int) + (delN l : Int) = (ed (runesI a0) (runesI a1) : Int) by omega), awake _ (by omega)]
                rfl
end Go.Proofs.YtmlfecgppnffgaaDoor.E
