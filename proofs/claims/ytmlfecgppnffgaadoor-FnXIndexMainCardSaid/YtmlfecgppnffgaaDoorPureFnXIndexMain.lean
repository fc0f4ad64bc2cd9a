import Derived.Test.YtmlfecgppnffgaaDoorRP
/- Places of the first text are led to places of the second one. -/
set_option linter.unusedVariables false
set_option linter.unusedSimpArgs false
namespace Go.Proofs.YtmlfecgppnffgaaDoor.E
open Go.Ev
theorem txt_sz' {m : Int} {s : ByteArray} (h : txt m s = true) : (s.size : Int) ≤ 4 * m := by
  unfold txt at h
  simp only [Bool.and_eq_true, decide_eq_true_eq] at h
  exact h.1
theorem Pure.FnXIndexMain (a0 a1 : ByteArray) (a2 : Int) (_h0 : a0.size ≤ 9223372036854775807) (_h1 : a1.size ≤ 9223372036854775807) (_h2 : (Lit.int .i64 a2).wf = true) : ∃ k, callF k 14 (a0, a1, a2, ()) = some true := by
  obtain ⟨F, hF⟩ := main_law 160 (by omega)
  obtain ⟨k, hk⟩ : ∃ k : Nat, k = F + 100000 := ⟨_, rfl⟩
  refine ⟨k + 4 + 1, ?_⟩
  show E.FnXIndexMain (k + 4 + 1) a0 a1 a2 = some true
  rw [FnXIndexMain_eq]
  by_cases g0 : (2147483647 : Int) < a0.size
  · rw [br_lt g0, FnXIndexMain_j0_eq, br_true]
  · rw [br_ge (by omega), FnXIndexMain_j0_eq]
    by_cases g1 : (2147483647 : Int) < a1.size
    · rw [br_lt g1]
    · rw [br_ge (by omega), FnXIndexMain_j1_eq, isDiffText_ok _ a0 80 (by omega) (by omega) (by omega) (by omega), Option.bind_some, isDiffText_ok _ a1 80 (by omega) (by omega) (by omega) (by omega), Option.bind_some, br_not, br_not]
      cases t0 : txt 80 a0 with
      | false => rw [br_false, FnXIndexMain_j2_eq, br_true]
      | true =>
        rw [br_true]
        cases t1 : txt 80 a1 with
        | false => rw [br_false, FnXIndexMain_j2_eq, br_true]
        | true =>
          rw [br_true]
          by_cases hn : a2 < 0
          · rw [br_lt hn, FnXIndexMain_j2_eq, br_true]
          · rw [br_ge (by omega), FnXIndexMain_j2_eq]
            by_cases hb : (a0.size : Int) ≤ a2
            · rw [br_le hb]
            · rw [br_gt (by omega), FnXIndexMain_j3_eq]
              obtain ⟨v0, n0⟩ := txt_vt t0
              obtain ⟨v1, n1⟩ := txt_vt t1
              have q0 := txt_sz' t0
              have q1 := txt_sz' t1
              obtain ⟨l, e1, r1⟩ := hF a0 a1 (k + 4) v0 v1 (by omega) (by omega)
              have w1 := r1.w
              have c1 := wt_len l
              have s1 : z1 l = (a0.size : Int) := by
                rw [z1_side, r1.s1]
                unfold zs
                rw [v0.back]
              have s2 : z2 l = (a1.size : Int) := by
                rw [z2_side, r1.s2]
                unfold zs
                rw [v1.back]
              have x1 := xi_low a2 l 0 0 (by omega)
              have x2 := xi_mono (show a2 ≤ a2 + 1 by omega) l 0 0 (by omega)
              have x3 := xi_high (a2 + 1) l 0 0 (by omega) (by omega)
              have x4 := xi_end l 0 0 (a0.size : Int) (by omega)
              rw [e1, Option.bind_some, xindex_ok _ l a2 (by omega) r1.ty (by omega) (by omega) (by omega) (by omega) (by omega), Option.bind_some, wrap_id (by omega) (by omega), xindex_ok _ l (a2 + 1) (by omega) r1.ty (by omega) (by omega) (by omega) (by omega) (by omega), Option.bind_some, br_le (by omega), br_le (by omega), br_le (by omega), xindex_ok _ l (a0.size : Int) (by omega) r1.ty (by omega) (by omega) (by omega) (by omega) (by omega), Option.bind_some, br_eq (by omega), awake _ (by omega)]
              rfl
end Go.Proofs.YtmlfecgppnffgaaDoor.E
