import Derived.Test.YtmlfecgppnffgaaDoorRO
/- The distance of the difference of two texts. -/
set_option linter.unusedVariables false
set_option linter.unusedSimpArgs false
namespace Go.Proofs.YtmlfecgppnffgaaDoor.E
open Go.Ev
theorem Pure.FnMainDistance (a0 a1 : ByteArray) (_h0 : a0.size ≤ 9223372036854775807) (_h1 : a1.size ≤ 9223372036854775807) : ∃ k, callF k 13 (a0, a1, ()) = some true := by
  obtain ⟨F, hF⟩ := main_law 80 (by omega)
  obtain ⟨k, hk⟩ : ∃ k : Nat, k = F + 100000 := ⟨_, rfl⟩
  refine ⟨k + 4 + 1, ?_⟩
  show E.FnMainDistance (k + 4 + 1) a0 a1 = some true
  rw [FnMainDistance_eq]
  by_cases g0 : (2147483647 : Int) < a0.size
  · rw [br_lt g0, FnMainDistance_j0_eq, br_true]
  · rw [br_ge (by omega), FnMainDistance_j0_eq]
    by_cases g1 : (2147483647 : Int) < a1.size
    · rw [br_lt g1]
    · rw [br_ge (by omega), FnMainDistance_j1_eq, isDiffText_ok _ a0 40 (by omega) (by omega) (by omega) (by omega), Option.bind_some, isDiffText_ok _ a1 40 (by omega) (by omega) (by omega) (by omega), Option.bind_some, br_not]
      cases t0 : txt 40 a0 with
      | false => rw [br_false, FnMainDistance_j2_eq, br_true]
      | true =>
        rw [br_true, FnMainDistance_j2_eq]
        cases t1 : txt 40 a1 with
        | false => rfl
        | true =>
          rw [Bool.not_true, br_false, FnMainDistance_j3_eq]
          obtain ⟨v0, n0⟩ := txt_vt t0
          obtain ⟨v1, n1⟩ := txt_vt t1
          obtain ⟨l, e1, r1⟩ := hF a0 a1 (k + 4) v0 v1 (by omega) (by omega)
          have w1 := r1.w
          have c1 := wt_len l
          obtain ⟨i1, i2⟩ := ins_del r1.ty
          have m1 := r1.mn
          have hsum := ed_le_sum (runesI a0) (runesI a1)
          have hmul : (runesI a0).length * (3 * (runesI a1).length + 4) ≤ 40 * 124 := Nat.mul_le_mul (by omega) (by omega)
          have lo := levD_low l [] [] r1.ty
          have hi := levD_high l 0 0 r1.ty
          rw [r1.s1, r1.s2] at lo
          simp only [List.nil_append, List.length_nil] at lo
          rw [e1, Option.bind_some, levenshtein_ok _ l (by omega) r1.ok r1.ty (by omega), Option.bind_some, diffOf_ok _ _ (by rw [enc_len]; omega) (by rw [enc_len]; omega), Option.bind_some, edits_ok _ l (by omega) r1.ok r1.ty (by omega), Option.bind_some, true_ok _ a0 a1 (by omega) (by omega) (by omega), Option.bind_some, wrap_id (by omega) (by omega), br_le (by omega), br_le (by omega), eqS_iff]
          have hb : (eqI (levD 0 0 l : Int) 0 == decide (a0 = a1)) = true := by
            by_cases he : a0 = a1
            · subst he
              rw [ed_self] at m1
              rw [decide_eq_true rfl, eqI_t (by omega)]
              rfl
            · have : ¬ (levD 0 0 l : Int) = 0 := by
                intro h0
                have hz := levH_zero _ _ (show levH (runesI a0).reverse (runesI a1).reverse = 0 by omega)
                have := List.reverse_inj.1 hz
                exact he (runesI_inj v0 v1 this)
              rw [decide_eq_false he, eqI_f this]
              rfl
          rw [hb, br_true, awake _ (by omega)]
          rfl
end Go.Proofs.YtmlfecgppnffgaaDoor.E
