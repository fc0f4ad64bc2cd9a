import Derived.Test.YtaabfadjemmibaaDoorVD
import Derived.Test.YtaabfadjemmibaaDoorPureFnMergeKeeps
/- Between two equalities the order of deletions and insertions does not matter. -/
set_option linter.unusedVariables false
set_option linter.unusedSimpArgs false
namespace Go.Proofs.YtaabfadjemmibaaDoor.E
open Go.Ev
theorem Pure.FnMergeOrder (l : List TS0.den) (_h : l.length ≤ 9223372036854775807 ∧ ∀ y ∈ l, ((Lit.int .i64 y.1).wf = true) ∧ (y.2.size ≤ 9223372036854775807)) : ∃ k, callF k 10 (l, ()) = some true := by
  refine ⟨2 * l.length + 100000, ?_⟩
  show E.FnMergeOrder (2 * l.length + 99999 + 1) l = some true
  have hK : 99999 ≤ 2 * l.length + 99999 := by omega
  have hK2 : 2 * l.length + 10 ≤ 2 * l.length + 99999 := by omega
  generalize 2 * l.length + 99999 = K at hK hK2
  have aw : cleanAwake K = some true := by
    have := awake (K - 60)
    rwa [show K - 60 + 60 = K by omega] at this
  rw [FnMergeOrder_eq]
  rcases fits_ok K l hK2 with hf | ⟨hl, b, hf⟩
  · rw [hf]; rfl
  · rw [hf]
    simp only [Option.bind_some]
    cases b with
    | false => rfl
    | true =>
      obtain ⟨K', rfl⟩ : ∃ m, K = m + 2 := ⟨K - 2, by omega⟩
      rw [Bool.not_true, br_false, FnMergeOrder_j0_eq, cleanFew_ok _ l hl (by omega)]
      simp only [Option.bind_some]
      cases hg : (decide (l.length ≤ 12) && l.all (goodD 40 false)) with
      | false =>
        rw [Bool.not_false, br_true, aw]
        rfl
      | true =>
        rw [Bool.not_true, br_false, FnMergeOrder_j1_eq]
        obtain ⟨e, rfl, o1, t1, _, l1, w1⟩ := few_case hg
        obtain ⟨l', e1, _, o', t', s', w', m'⟩ := dcm_spec (mu e + 1) e (by omega) o1 t1
        obtain ⟨_, _, _, _, _, o2, t2, _, w2, _⟩ := p1_spec l' t' o'
        have hwp := wt_len (p1 l')
        have he : (enc e).length = e.length := enc_len e
        have hp : (enc (p1 l')).length = (p1 l').length := enc_len _
        obtain ⟨r1, r2, r3, r4⟩ := reo_wt e [] Edits.nil t1
        have r3 := r3 Okm.nil o1
        simp only [wt, mu, Nat.zero_add] at r1 r2
        obtain ⟨k', hk', eo⟩ := order_loop (K' + 2) e.length e [] [] K' (Nat.le_refl _) (by simp; omega) (by simp) t1 (by omega)
        obtain ⟨k', rfl⟩ : ∃ m, k' = m + 1 := ⟨k' - 1, by omega⟩
        refine eo.trans ?_
        rw [List.nil_append, List.nil_append, FnMergeOrder_j3_eq, aw]
        simp only [Option.bind_some]
        rw [br_true, cleanOwn_ok _ (enc e) (by omega) (by omega)]
        simp only [Option.bind_some]
        have hr := CleanMerge_ok (K' + 2) (reo [] e) 1000 (by omega) (by omega) r3 r4 (by omega)
        rw [r2, dcm_reo (mu e) e t1, e1] at hr
        rw [CleanMerge_ok _ e 1000 w1 (by omega) o1 t1 (by omega), e1]
        simp only [Option.bind_some]
        rw [cleanOf_ok _ (enc (p1 l')) (by omega) (by omega)]
        simp only [Option.bind_some]
        rw [hr]
        simp only [Option.bind_some]
        rw [cleanOf_ok _ (enc (p1 l')) (by omega) (by omega)]
        simp only [Option.bind_some]
        rw [CleanSame_ok _ (enc (p1 l')) (by omega) (by omega)]
        rfl
end Go.Proofs.YtaabfadjemmibaaDoor.E
