import Derived.Test.YtaabfadjemmibaaDoorVB
/- Merged differences lead from the same text to the same text. -/
set_option linter.unusedVariables false
set_option linter.unusedSimpArgs false
namespace Go.Proofs.YtaabfadjemmibaaDoor.E
open Go.Ev
theorem few_wt : ∀ (l : List M), (∀ x ∈ l, x.2 ≠ [] ∧ (x.2.length : Int) ≤ 40) → wt l + mu l ≤ 82 * l.length
  | [], _ => Nat.le_refl _
  | m :: l, h => by
    have ih := few_wt l (fun x hx => h x (List.mem_cons_of_mem _ hx))
    have hm := h m (List.mem_cons_self ..)
    simp only [wt, mu, List.length_cons]
    split <;> omega
/-- A guarded list: what is known of it. -/
theorem few_case {l : List TS0.den} (h : (decide (l.length ≤ 12) && l.all (goodD 40 false)) = true) : ∃ e : List M, l = enc e ∧ Okm e ∧ Typed e ∧ (∀ x ∈ e, x.2 ≠ []) ∧ e.length ≤ 12 ∧ wt e + mu e ≤ 1000 := by
  rw [Bool.and_eq_true] at h
  obtain ⟨e, rfl, h1, h2, h3⟩ := good_enc l h.2
  have hl := of_decide_eq_true h.1
  rw [enc_len] at hl
  have := few_wt e h3
  exact ⟨e, rfl, h1, h2, fun x hx => (h3 x hx).1, hl, by omega⟩
theorem Pure.FnMergeKeeps (l : List TS0.den) (_h : l.length ≤ 9223372036854775807 ∧ ∀ y ∈ l, ((Lit.int .i64 y.1).wf = true) ∧ (y.2.size ≤ 9223372036854775807)) : ∃ k, callF k 8 (l, ()) = some true := by
  refine ⟨2 * l.length + 100000, ?_⟩
  show E.FnMergeKeeps (2 * l.length + 99999 + 1) l = some true
  have hK : 99999 ≤ 2 * l.length + 99999 := by omega
  have hK2 : 2 * l.length + 10 ≤ 2 * l.length + 99999 := by omega
  generalize 2 * l.length + 99999 = K at hK hK2
  have aw : cleanAwake K = some true := by
    have := awake (K - 60)
    rwa [show K - 60 + 60 = K by omega] at this
  rw [FnMergeKeeps_eq]
  rcases fits_ok K l hK2 with hf | ⟨hl, b, hf⟩
  · rw [hf]; rfl
  · rw [hf]
    simp only [Option.bind_some]
    cases b with
    | false => rfl
    | true =>
      obtain ⟨K', rfl⟩ : ∃ m, K = m + 2 := ⟨K - 2, by omega⟩
      rw [Bool.not_true, br_false, FnMergeKeeps_j0_eq, cleanFew_ok _ l hl (by omega)]
      simp only [Option.bind_some]
      cases hg : (decide (l.length ≤ 12) && l.all (goodD 40 false)) with
      | false =>
        rw [Bool.not_false, br_true, aw]
        rfl
      | true =>
        rw [Bool.not_true, br_false, FnMergeKeeps_j1_eq, aw]
        simp only [Option.bind_some]
        obtain ⟨e, rfl, o1, t1, _, l1, w1⟩ := few_case hg
        obtain ⟨l', e1, _, o', t', s', w', m'⟩ := dcm_spec (mu e + 1) e (by omega) o1 t1
        obtain ⟨_, _, _, _, _, o2, t2, _, w2, _⟩ := p1_spec l' t' o'
        have hwp := wt_len (p1 l')
        have he : (enc e).length = e.length := enc_len e
        have hp : (enc (p1 l')).length = (p1 l').length := enc_len _
        rw [br_true, cleanOf_ok _ (enc e) (by omega) (by omega), cleanOwn_ok _ (enc e) (by omega) (by omega)]
        simp only [Option.bind_some]
        rw [CleanMerge_ok _ e 1000 w1 (by omega) o1 t1 (by omega), e1]
        simp only [Option.bind_some]
        rw [cleanOf_ok _ (enc (p1 l')) (by omega) (by omega)]
        simp only [Option.bind_some]
        rw [CleanKept_ok _ e (p1 l') (by omega) o1 (by omega) o2 (by omega)]
        rw [decide_eq_true (s' 1 (.inl rfl)).symm, decide_eq_true (s' (-1) (.inr rfl)).symm]
        rfl
end Go.Proofs.YtaabfadjemmibaaDoor.E
