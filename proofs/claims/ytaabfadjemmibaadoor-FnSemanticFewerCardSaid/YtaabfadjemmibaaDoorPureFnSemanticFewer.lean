import Derived.Test.YtaabfadjemmibaaDoorVN
/- Merged differences that are cleaned up for readers have not more edits than before. -/
set_option linter.unusedVariables false
set_option linter.unusedSimpArgs false
namespace Go.Proofs.YtaabfadjemmibaaDoor.E
open Go.Ev
theorem Pure.FnSemanticFewer (l : List TS0.den) (_h : l.length ≤ 9223372036854775807 ∧ ∀ y ∈ l, ((Lit.int .i64 y.1).wf = true) ∧ (y.2.size ≤ 9223372036854775807)) : ∃ k, callF k 14 (l, ()) = some true := by
  obtain ⟨K, hK0⟩ : ∃ K, K = 2 * l.length + 2999999999 := ⟨_, rfl⟩
  refine ⟨K + 1, ?_⟩
  show E.FnSemanticFewer (K + 1) l = some true
  have hK : 2999999999 ≤ K := by omega
  have hK2 : 2 * l.length + 10 ≤ K := by omega
  clear hK0
  have aw : cleanAwake K = some true := by
    have := awake (K - 60)
    rwa [show K - 60 + 60 = K by omega] at this
  rw [FnSemanticFewer_eq]
  rcases fits_ok K l hK2 with hf | ⟨hl, b, hf⟩
  · rw [hf]; rfl
  · rw [hf]
    simp only [Option.bind_some]
    cases b with
    | false => rfl
    | true =>
      obtain ⟨K', rfl⟩ : ∃ m, K = m + 2 := ⟨K - 2, by omega⟩
      rw [Bool.not_true, br_false, FnSemanticFewer_j0_eq, cleanASCII_ok _ l hl (by omega)]
      simp only [Option.bind_some]
      cases hg : (decide (l.length ≤ 12) && l.all (goodD 40 true)) with
      | false =>
        rw [Bool.not_false, br_true, aw]
        rfl
      | true =>
        obtain ⟨e, rfl, a1, t1, n1, l1, w1⟩ := ascii_case hg
        have o1 := a1.okm
        have he : (enc e).length = e.length := enc_len e
        rw [Bool.not_true, br_false, FnSemanticFewer_j1_eq]
        obtain ⟨l', e1, f', o', t', s', w', m'⟩ := dcm_spec (mu e + 1) e (by omega) o1 t1
        obtain ⟨_, _, _, _, _, o2, t2, _, w2, _⟩ := p1_spec l' t' o'
        have a2 : Ascm (p1 l') := asc_of_side t2 (by rw [s' 1 (.inl rfl)]; exact asc_side a1 1) (by rw [s' (-1) (.inr rfl)]; exact asc_side a1 (-1))
        have n2 := ne0_dcm (mu e + 1) e o1 t1 (ne0_of n1)
        rw [e1] at n2
        have hwp := wt_len (p1 l')
        have hp : (enc (p1 l')).length = (p1 l').length := enc_len _
        obtain ⟨L', s1, hs⟩ := CleanSemantic_ok (K' + 2) (p1 l') t2 a2 n2 (by omega) (by omega)
        have w3 := s1.wl
        have l3 := wt_len L'
        have h3 : (enc L').length = L'.length := enc_len _
        rw [cleanOwn_ok _ (enc e) (by omega) (by omega), Option.bind_some, CleanMerge_ok _ e 1000 w1 (by omega) o1 t1 (by omega), e1, Option.bind_some, cleanOf_ok _ (enc (p1 l')) (by omega) (by omega), Option.bind_some, CleanEdits_ok _ (p1 l') (by omega) o2 (by omega), Option.bind_some, cleanOwn_ok _ (enc (p1 l')) (by omega) (by omega), Option.bind_some, hs, Option.bind_some, cleanOf_ok _ (enc L') (by omega) (by omega), Option.bind_some, CleanEdits_ok _ L' (by omega) s1.asc.okm (by omega), Option.bind_some, aw, Option.bind_some, br_true]
        have hc := s1.cn
        rw [leI_eq, decide_eq_true (show ((cnt L' : Nat) : Int) ≤ ((cnt (p1 l') : Nat) : Int) by omega)]
end Go.Proofs.YtaabfadjemmibaaDoor.E
