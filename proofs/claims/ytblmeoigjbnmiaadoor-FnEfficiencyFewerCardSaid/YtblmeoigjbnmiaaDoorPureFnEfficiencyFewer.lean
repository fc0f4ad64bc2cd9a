import Derived.Test.YtblmeoigjbnmiaaDoorWF
/- Differences that are cleaned up for machines have not more edits than before. -/
set_option linter.unusedVariables false
set_option linter.unusedSimpArgs false
namespace Go.Proofs.YtblmeoigjbnmiaaDoor.E
open Go.Ev
theorem Pure.FnEfficiencyFewer (l : List TS2.den) (c : Int) (_h : l.length ≤ 9223372036854775807 ∧ ∀ y ∈ l, ((Lit.int .i64 y.1).wf = true) ∧ (y.2.size ≤ 9223372036854775807)) (_w : (Lit.int .i64 c).wf = true) : ∃ k, callF k 6 (l, c, ()) = some true := by
  obtain ⟨K, hK0⟩ : ∃ K, K = 2 * l.length + 2999999999 := ⟨_, rfl⟩
  refine ⟨K + 1, ?_⟩
  show E.FnEfficiencyFewer (K + 1) l c = some true
  have hK : 2999999999 ≤ K := by omega
  have hK2 : 2 * l.length + 10 ≤ K := by omega
  clear hK0
  have aw : cleanAwake K = some true := by
    have := awake (K - 60)
    rwa [show K - 60 + 60 = K by omega] at this
  rw [FnEfficiencyFewer_eq]
  rcases fits_ok K l hK2 with hf | ⟨hl, b, hf⟩
  · rw [hf]; rfl
  · rw [hf, obs]
    cases b with
    | false => rfl
    | true =>
      obtain ⟨K', rfl⟩ : ∃ m, K = m + 4 := ⟨K - 4, by omega⟩
      rw [Bool.not_true, br_false, FnEfficiencyFewer_j0_eq, cleanASCII_ok _ l hl (by omega), obs]
      have skip : ∀ k, FnEfficiencyFewer_j1 (K' + 4) (k + 1) l c true = some true := by
        intro k
        rw [FnEfficiencyFewer_j1_eq, br_true, aw]
        rfl
      cases hg : (decide (l.length ≤ 12) && l.all (goodD 40 true)) with
      | false =>
        rw [Bool.not_false, br_true]
        exact skip _
      | true =>
        rw [Bool.not_true, br_false]
        by_cases hc1 : c < -1000
        · rw [br_lt hc1]
          exact skip _
        · rw [br_ge (by omega)]
          by_cases hc2 : 1000 < c
          · rw [show ltI (1000 : Int) c = true by rw [ltI_eq]; exact decide_eq_true hc2]
            exact skip _
          · rw [show ltI (1000 : Int) c = false by rw [ltI_eq]; exact decide_eq_false hc2, FnEfficiencyFewer_j1_eq, br_false, FnEfficiencyFewer_j2_eq]
            obtain ⟨e, rfl, o1, t1, n1, l1, w1⟩ := ascii_few hg
            have he : (enc e).length = e.length := enc_len e
            obtain ⟨l', e1, _, o', t', s', w', m'⟩ := dcm_spec (mu e + 1) e (by omega) o1 t1
            obtain ⟨_, _, _, _, _, o2, t2, _, w2, _⟩ := p1_spec l' t' o'
            have hwp := wt_len (p1 l')
            have hp0 : (enc (p1 l')).length = (p1 l').length := enc_len _
            obtain ⟨l2, h1, h2, h3, h4, h5, h6, h7⟩ := CleanEff_ok (K' + 4) c (p1 l') o2 t2 (by omega) (by omega)
            have hw2 := wt_len l2
            have hp : (enc l2).length = l2.length := enc_len _
            rw [cleanOwn_ok _ (enc e) (by omega) (by omega), obs, CleanMerge_ok _ e 1000 w1 (by omega) o1 t1 (by omega), e1, obs, cleanOwn_ok _ (enc (p1 l')) (by omega) (by omega), obs, h1, obs]
            by_cases hc : c ≤ 0
            · have := h7 hc
              subst this
              rw [br_le hc, aw, obs, br_true, cleanOf_ok _ (enc (p1 l')) (by omega) (by omega), obs, obs, CleanSame_ok _ (enc (p1 l')) (by omega) (by omega)]
              rfl
            · rw [br_gt (by omega), FnEfficiencyFewer_j3_eq, cleanOf_ok _ (enc (p1 l')) (by omega) (by omega), obs, CleanEdits_ok _ (p1 l') (by omega) o2 (by omega), obs, cleanOf_ok _ (enc l2) (by omega) (by omega), obs, CleanEdits_ok _ l2 (by omega) h2 (by omega), obs, aw, obs, br_true, leI_eq, decide_eq_true (show ((cnt l2 : Nat) : Int) ≤ ((cnt (p1 l') : Nat) : Int) by omega)]
end Go.Proofs.YtblmeoigjbnmiaaDoor.E
