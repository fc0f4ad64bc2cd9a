import Derived.Test.YtaabfadjemmibaaDoorVN
/- Differences that are cleaned up for readers lead from the same text to the same text. -/
set_option linter.unusedVariables false
set_option linter.unusedSimpArgs false
namespace Go.Proofs.YtaabfadjemmibaaDoor.E
open Go.Ev
theorem Pure.FnSemanticKeeps (l : List TS0.den) (_h : l.length ≤ 9223372036854775807 ∧ ∀ y ∈ l, ((Lit.int .i64 y.1).wf = true) ∧ (y.2.size ≤ 9223372036854775807)) : ∃ k, callF k 13 (l, ()) = some true := by
  obtain ⟨K, hK0⟩ : ∃ K, K = 2 * l.length + 2999999999 := ⟨_, rfl⟩
  refine ⟨K + 1, ?_⟩
  show E.FnSemanticKeeps (K + 1) l = some true
  have hK : 2999999999 ≤ K := by omega
  have hK2 : 2 * l.length + 10 ≤ K := by omega
  clear hK0
  have aw : cleanAwake K = some true := by
    have := awake (K - 60)
    rwa [show K - 60 + 60 = K by omega] at this
  rw [FnSemanticKeeps_eq]
  rcases fits_ok K l hK2 with hf | ⟨hl, b, hf⟩
  · rw [hf]; rfl
  · rw [hf]
    simp only [Option.bind_some]
    cases b with
    | false => rfl
    | true =>
      obtain ⟨K', rfl⟩ : ∃ m, K = m + 2 := ⟨K - 2, by omega⟩
      rw [Bool.not_true, br_false, FnSemanticKeeps_j0_eq, cleanASCII_ok _ l hl (by omega)]
      simp only [Option.bind_some]
      cases hg : (decide (l.length ≤ 12) && l.all (goodD 40 true)) with
      | false =>
        rw [Bool.not_false, br_true, aw]
        rfl
      | true =>
        obtain ⟨e, rfl, a1, t1, n1, l1, w1⟩ := ascii_case hg
        have o1 := a1.okm
        have he : (enc e).length = e.length := enc_len e
        rw [Bool.not_true, br_false, FnSemanticKeeps_j1_eq]
        obtain ⟨L', s1, hs⟩ := CleanSemantic_ok (K' + 2) e t1 a1 (ne0_of n1) (by omega) (by omega)
        have w2 := s1.wl
        have l2 := wt_len L'
        have h2 : (enc L').length = L'.length := enc_len _
        rw [aw, Option.bind_some, br_true, cleanOf_ok _ (enc e) (by omega) (by omega), Option.bind_some, cleanOwn_ok _ (enc e) (by omega) (by omega), Option.bind_some, hs, Option.bind_some, cleanOf_ok _ (enc L') (by omega) (by omega), Option.bind_some, CleanKept_ok _ e L' (by omega) o1 (by omega) s1.asc.okm (by omega)]
        rw [decide_eq_true (s1.side 1 (.inl rfl)).symm, decide_eq_true (s1.side (-1) (.inr rfl)).symm]
        rfl
end Go.Proofs.YtaabfadjemmibaaDoor.E
