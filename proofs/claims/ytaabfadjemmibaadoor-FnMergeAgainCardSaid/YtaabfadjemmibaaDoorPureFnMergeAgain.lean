import Derived.Test.YtaabfadjemmibaaDoorVD
import Derived.Test.YtaabfadjemmibaaDoorPureFnMergeKeeps
/- Merged differences that are merged again stay as they are. -/
set_option linter.unusedVariables false
set_option linter.unusedSimpArgs false
namespace Go.Proofs.YtaabfadjemmibaaDoor.E
open Go.Ev
theorem Pure.FnMergeAgain (l : List TS0.den) (_h : l.length ≤ 9223372036854775807 ∧ ∀ y ∈ l, ((Lit.int .i64 y.1).wf = true) ∧ (y.2.size ≤ 9223372036854775807)) : ∃ k, callF k 6 (l, ()) = some true := by
  refine ⟨2 * l.length + 100000, ?_⟩
  show E.FnMergeAgain (2 * l.length + 99999 + 1) l = some true
  have hK : 99999 ≤ 2 * l.length + 99999 := by omega
  have hK2 : 2 * l.length + 10 ≤ 2 * l.length + 99999 := by omega
  generalize 2 * l.length + 99999 = K at hK hK2
  have aw : cleanAwake K = some true := by
    have := awake (K - 60)
    rwa [show K - 60 + 60 = K by omega] at this
  rw [FnMergeAgain_eq]
  rcases fits_ok K l hK2 with hf | ⟨hl, b, hf⟩
  · rw [hf]; rfl
  · rw [hf]
    simp only [Option.bind_some]
    cases b with
    | false => rfl
    | true =>
      obtain ⟨K', rfl⟩ : ∃ m, K = m + 2 := ⟨K - 2, by omega⟩
      rw [Bool.not_true, br_false, FnMergeAgain_j0_eq, cleanFew_ok _ l hl (by omega)]
      simp only [Option.bind_some]
      cases hg : (decide (l.length ≤ 12) && l.all (goodD 40 false)) with
      | false =>
        rw [Bool.not_false, br_true, aw]
        rfl
      | true =>
        rw [Bool.not_true, br_false, FnMergeAgain_j1_eq]
        obtain ⟨e, rfl, o1, t1, _, l1, w1⟩ := few_case hg
        obtain ⟨l', e1, _, o', t', s', w', m'⟩ := dcm_spec (mu e + 1) e (by omega) o1 t1
        obtain ⟨_, _, _, _, _, o2, t2, _, w2, _⟩ := p1_spec l' t' o'
        have hwp := wt_len (p1 l')
        have he : (enc e).length = e.length := enc_len e
        have hp : (enc (p1 l')).length = (p1 l').length := enc_len _
        have hag := dcm_dcm (mu e + 1) (mu (p1 l') + 1) e (by omega) o1 t1 (by omega)
        rw [e1] at hag
        rw [cleanOwn_ok _ (enc e) (by omega) (by omega)]
        simp only [Option.bind_some]
        rw [CleanMerge_ok _ e 1000 w1 (by omega) o1 t1 (by omega), e1]
        simp only [Option.bind_some]
        rw [cleanOwn_ok _ (enc (p1 l')) (by omega) (by omega)]
        simp only [Option.bind_some]
        rw [CleanMerge_ok _ (p1 l') 1002 (by omega) (by omega) o2 t2 (by omega), hag]
        simp only [Option.bind_some]
        rw [aw]
        simp only [Option.bind_some]
        rw [br_true, cleanOf_ok _ (enc (p1 l')) (by omega) (by omega)]
        simp only [Option.bind_some]
        rw [CleanSame_ok _ (enc (p1 l')) (by omega) (by omega)]
        rfl
end Go.Proofs.YtaabfadjemmibaaDoor.E
