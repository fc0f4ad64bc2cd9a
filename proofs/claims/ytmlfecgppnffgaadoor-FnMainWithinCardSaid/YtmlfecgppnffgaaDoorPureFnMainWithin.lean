import Derived.Test.YtmlfecgppnffgaaDoorRJ
/- Of a text and a longer one around it nothing is deleted. -/
set_option linter.unusedVariables false
set_option linter.unusedSimpArgs false
namespace Go.Proofs.YtmlfecgppnffgaaDoor.E
open Go.Ev
theorem ed_within (p a s : List Int) : ed a (p ++ a ++ s) = p.length + s.length := by
  have h1 := ed_diff a (p ++ a ++ s)
  have h2 : a.Sublist (p ++ a ++ s) := (List.sublist_append_right p a).trans (List.sublist_append_left _ s)
  have h3 := ed_least (List.Sublist.refl a) h2
  simp only [List.length_append] at h1 h3
  omega
theorem txt_sz {m : Int} {s : ByteArray} (h : txt m s = true) : (s.size : Int) ≤ 4 * m := by
  unfold txt at h
  simp only [Bool.and_eq_true, decide_eq_true_eq] at h
  exact h.1
theorem Pure.FnMainWithin (a0 a1 a2 : ByteArray) (_h0 : a0.size ≤ 9223372036854775807) (_h1 : a1.size ≤ 9223372036854775807) (_h2 : a2.size ≤ 9223372036854775807) : ∃ k, callF k 8 (a0, a1, a2, ()) = some true := by
  obtain ⟨F, hF⟩ := main_law 240 (by omega)
  obtain ⟨k, hk⟩ : ∃ k : Nat, k = F + 100000 := ⟨_, rfl⟩
  refine ⟨k + 4 + 1, ?_⟩
  show E.FnMainWithin (k + 4 + 1) a0 a1 a2 = some true
  rw [FnMainWithin_eq]
  by_cases g0 : (2147483647 : Int) < a0.size
  · rw [br_lt g0, FnMainWithin_j0_eq, br_true]
  · rw [br_ge (by omega)]
    by_cases g1 : (2147483647 : Int) < a1.size
    · rw [br_lt g1, FnMainWithin_j0_eq, br_true]
    · rw [br_ge (by omega), FnMainWithin_j0_eq]
      by_cases g2 : (2147483647 : Int) < a2.size
      · rw [br_lt g2]
      · rw [br_ge (by omega), FnMainWithin_j1_eq, isDiffText_ok _ a0 60 (by omega) (by omega) (by omega) (by omega), Option.bind_some, br_not]
        cases t0 : txt 60 a0 with
        | false => rw [br_false, FnMainWithin_j2_eq, br_true]
        | true =>
          rw [br_true, isDiffText_ok _ a1 60 (by omega) (by omega) (by omega) (by omega), Option.bind_some, br_not]
          cases t1 : txt 60 a1 with
          | false => rw [br_false, FnMainWithin_j2_eq, br_true]
          | true =>
            rw [br_true, isDiffText_ok _ a2 60 (by omega) (by omega) (by omega) (by omega), Option.bind_some, FnMainWithin_j2_eq]
            cases t2 : txt 60 a2 with
            | false => rfl
            | true =>
              rw [Bool.not_true, br_false, FnMainWithin_j3_eq]
              obtain ⟨v0, n0⟩ := txt_vt t0
              obtain ⟨v1, n1⟩ := txt_vt t1
              obtain ⟨v2, n2⟩ := txt_vt t2
              have z0 := txt_sz t0
              have z1 := txt_sz t1
              have z2 := txt_sz t2
              have s1 : ByteArray.size (ByteArray.append a0 a1) = a0.size + a1.size := size_app a0 a1
              obtain ⟨B, hB⟩ : ∃ B, B = ByteArray.append (ByteArray.append a0 a1) a2 := ⟨_, rfl⟩
              have vB : Vt B := hB ▸ (v0.append v1).append v2
              have rB : runesI B = runesI a0 ++ runesI a1 ++ runesI a2 := by
                rw [hB]
                show runesI ((a0 ++ a1) ++ a2) = _
                rw [runesI_app (v0.append v1), runesI_app v0]
              have lB := congrArg List.length rB
              simp only [List.length_append] at lB
              rw [s1, chk_nle (by omega), chk_nle (by omega), ← hB]
              obtain ⟨l, e1, r1⟩ := hF a1 B (k + 4) v1 vB (by omega) (by omega)
              obtain ⟨l', e2, r2⟩ := hF B a1 (k + 4) vB v1 (by omega) (by omega)
              have w1 := r1.w
              have w2 := r2.w
              have c1 := wt_len l
              have c2 := wt_len l'
              obtain ⟨i1, i2⟩ := ins_del r1.ty
              obtain ⟨i3, i4⟩ := ins_del r2.ty
              have m1 := r1.mn
              have m2 := r2.mn
              have hw := ed_within (runesI a0) (runesI a1) (runesI a2)
              rw [← rB] at hw
              rw [ed_symm, hw] at m2
              rw [hw] at m1
              rw [r1.s1, r1.s2] at i2
              rw [r2.s1, r2.s2] at i4
              have e3 : RuneCountInString (k + 4) a0 = some ((runesI a0).length : Int) := by
                have := count_ok (k + 4) v0.okl (by omega) (by omega)
                rwa [v0.back] at this
              have e4 : RuneCountInString (k + 4) a2 = some ((runesI a2).length : Int) := by
                have := count_ok (k + 4) v2.okl (by omega) (by omega)
                rwa [v2.back] at this
              rw [e1, Option.bind_some, diffOf_ok _ _ (by rw [enc_len]; omega) (by rw [enc_len]; omega), Option.bind_some, edits_ok _ l (by omega) r1.ok r1.ty (by omega), Option.bind_some, chk_nle (by omega), chk_nle (by omega),
                e2, Option.bind_some, diffOf_ok _ _ (by rw [enc_len]; omega) (by rw [enc_len]; omega), Option.bind_some, edits_ok _ l' (by omega) r2.ok r2.ty (by omega), Option.bind_some, e3, Option.bind_some, e4, Option.bind_some, wrap_id (by omega) (by omega)]
              rw [br_eq (show (insN l : Int) = ((runesI a0).length : Int) + ((runesI a2).length : Int) by omega), br_eq (show (delN l : Int) = 0 by omega), br_eq (show (insN l' : Int) = 0 by omega), br_eq (show (delN l' : Int) = ((runesI a0).length : Int) + ((runesI a2).length : Int) by omega), awake _ (by omega)]
              rfl
end Go.Proofs.YtmlfecgppnffgaaDoor.E
