import Derived.Test.YtaabfadjemmibaaDoorVE
import Derived.Test.YtaabfadjemmibaaDoorPureFnMergeKeeps
/- Merged differences of which none is empty have a form. -/
set_option linter.unusedVariables false
set_option linter.unusedSimpArgs false
namespace Go.Proofs.YtaabfadjemmibaaDoor.E
open Go.Ev
theorem form_loop (K : Nat) (l : List M) (hl : wt l ≤ 1000000) (ho : Okm l) (aw : cleanAwake K = some true) (hm : (∀ m ∈ l, m.2 ≠ []) → CleanMerged K (enc l) = some true) : ∀ (d i k : Nat), i + d = l.length → (∀ j (h : j < l.length), j < i → (l[j]).2 ≠ []) → 2 * d + 3 ≤ k →
    FnMergeForm_l0 K k (enc l) (l.length : Int) (i : Int) = some true
  | 0, i, k, h, hn, hk => by
    obtain ⟨k, rfl⟩ : ∃ m, k = m + 2 := ⟨k - 2, by omega⟩
    rw [FnMergeForm_l0_eq, br_ge (by omega), FnMergeForm_j3_eq, aw]
    simp only [Option.bind_some]
    rw [br_true, hm (fun m hm => by
      obtain ⟨j, hj, rfl⟩ := List.mem_iff_getElem.1 hm
      exact hn j hj (by omega))]
    rfl
  | d + 1, i, k, h, hn, hk => by
    obtain ⟨k, rfl⟩ : ∃ m, k = m + 2 := ⟨k - 2, by omega⟩
    have hi : i < l.length := by omega
    have hwl := wt_len l
    rw [FnMergeForm_l0_eq, br_lt (by omega), FnMergeForm_j2_eq, enc_len, chk_le (by omega), chk_lt (by omega), nthE l i hi]
    simp only []
    by_cases h0 : (l[i]).2 = []
    · have : eqS (strOfRunes (l[i]).2) ⟨#[]⟩ = true := by rw [h0, eqS_iff]; exact decide_eq_true rfl
      rw [this, br_true, aw]
      rfl
    · rw [str_ne (ho _ (List.getElem_mem hi)) h0, br_false, wrap_id (by omega) (by omega)]
      refine form_loop K l hl ho aw hm d (i + 1) k (by omega) (fun j hj hji => ?_) (by omega)
      by_cases e : j = i
      · subst e; exact h0
      · exact hn j hj (by omega)
theorem Pure.FnMergeForm (l : List TS0.den) (_h : l.length ≤ 9223372036854775807 ∧ ∀ y ∈ l, ((Lit.int .i64 y.1).wf = true) ∧ (y.2.size ≤ 9223372036854775807)) : ∃ k, callF k 7 (l, ()) = some true := by
  refine ⟨2 * l.length + 100000, ?_⟩
  show E.FnMergeForm (2 * l.length + 99999 + 1) l = some true
  have hK : 99999 ≤ 2 * l.length + 99999 := by omega
  have hK2 : 2 * l.length + 10 ≤ 2 * l.length + 99999 := by omega
  generalize 2 * l.length + 99999 = K at hK hK2
  have aw : cleanAwake K = some true := by
    have := awake (K - 60)
    rwa [show K - 60 + 60 = K by omega] at this
  rw [FnMergeForm_eq]
  rcases fits_ok K l hK2 with hf | ⟨hl, b, hf⟩
  · rw [hf]; rfl
  · rw [hf]
    simp only [Option.bind_some]
    cases b with
    | false => rfl
    | true =>
      obtain ⟨K', rfl⟩ : ∃ m, K = m + 2 := ⟨K - 2, by omega⟩
      rw [Bool.not_true, br_false, FnMergeForm_j0_eq, cleanFew_ok _ l hl (by omega)]
      simp only [Option.bind_some]
      cases hg : (decide (l.length ≤ 12) && l.all (goodD 40 false)) with
      | false =>
        rw [Bool.not_false, br_true, aw]
        rfl
      | true =>
        rw [Bool.not_true, br_false, FnMergeForm_j1_eq]
        obtain ⟨e, rfl, o1, t1, _, l1, w1⟩ := few_case hg
        obtain ⟨l', e1, f', o', t', s', w', m'⟩ := dcm_spec (mu e + 1) e (by omega) o1 t1
        obtain ⟨_, _, _, _, _, o2, t2, _, w2, _⟩ := p1_spec l' t' o'
        have hwp := wt_len (p1 l')
        have he : (enc e).length = e.length := enc_len e
        have hp : (enc (p1 l')).length = (p1 l').length := enc_len _
        rw [cleanOwn_ok _ (enc e) (by omega) (by omega)]
        simp only [Option.bind_some]
        rw [CleanMerge_ok _ e 1000 w1 (by omega) o1 t1 (by omega), e1]
        simp only [Option.bind_some]
        rw [cleanOf_ok _ (enc (p1 l')) (by omega) (by omega)]
        simp only [Option.bind_some]
        rw [hp]
        have := form_loop (K' + 2) (p1 l') (by omega) o2 aw (fun hne => CleanMerged_ok _ _ (by omega) o2 hne t2 (p1_ch l' t') (p2_tri _ _ (Nat.le_refl _) f') (by omega)) (p1 l').length 0 K' (by omega) (fun j _ hj => by omega) (by omega)
        exact this
end Go.Proofs.YtaabfadjemmibaaDoor.E
