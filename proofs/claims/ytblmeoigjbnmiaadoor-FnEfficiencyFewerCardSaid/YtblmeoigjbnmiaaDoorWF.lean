import Derived.Test.YtblmeoigjbnmiaaDoorWE
/- DiffCleanupEfficiency: the whole. -/
set_option linter.unusedVariables false
set_option linter.unusedSimpArgs false
namespace Go.Proofs.YtblmeoigjbnmiaaDoor.E
open Go.Ev
/-- DiffCleanupEfficiency, the whole. -/
theorem Eff_ok (K : Nat) (X : TS0.den) (l : List M) (oT : Okm l) (tT : Typed l) (hW : wt l ≤ 4000) (hK : 1000000000 ≤ K) : ∃ l2, DiffCleanupEfficiency K X (enc l) = some (enc l2) ∧ Okm l2 ∧ Typed l2 ∧ (∀ z, z = 1 ∨ z = -1 → side z l2 = side z l) ∧ cnt l2 ≤ cnt l ∧ wt l2 ≤ 2 * (2 * wt l + 1) ∧ (X.2.1 ≤ 0 → l2 = l) := by
  obtain ⟨K, rfl⟩ : ∃ m, K = m + 1 := ⟨K - 1, by omega⟩
  have hq := wq_le l
  have hlen := wt_len l
  have heq : eqs l ≤ l.length := by
    clear hq hlen hW oT tT
    induction l with
    | nil => exact Nat.le_refl _
    | cons m l ih => simp only [eqs, List.length_cons]; split <;> omega
  have hms : msr l 0 ≤ 40000000 := by
    unfold msr
    have := Nat.mul_le_mul (show eqs l ≤ 4000 by omega) (show l.length + eqs l + 2 ≤ 9000 by omega)
    omega
  rw [DiffCleanupEfficiency_eq]
  obtain ⟨l2, ch', k, h, h1, h2, h3, h4, h5, h6, _, h8, h9⟩ := eff_loop K X (by omega) 40000000 l 0 [] Pf.nil Hp.empty [] false false false false false K hms (EInv.start l) trivial (fun _ _ => rfl) oT tT (by omega) (by omega)
  have e0 : DiffCleanupEfficiency_l0 K K (0 : Int) (X :: []) (enc l) Bool.false Pf.nil (ByteArray.mk (List.toArray [])) (0 : Int) Bool.false Bool.false Bool.false Bool.false Hp.empty = DiffCleanupEfficiency_j1 K (k + 1) 0 [X] (enc l2) ch' h := h1
  rw [e0, DiffCleanupEfficiency_j1_eq]
  have hc := cf_cnt l false false
  have hc2 : cf false false l2 ≤ cnt l := by simp at hc; omega
  cases ch' with
  | false =>
    have := h8 rfl
    subst this
    exact ⟨l2, rfl, h2, h3, h4, Nat.le_refl _, by omega, fun _ => rfl⟩
  | true =>
    rw [br_true]
    have hm : ∀ l : List M, mu l ≤ wt l := by
      intro l
      induction l with
      | nil => exact Nat.le_refl _
      | cons m l ih => simp only [mu, wt]; split <;> omega
    have hm2 := hm l2
    have hd := dcm_ok (mu l2 + 1) l2 (2 * wt l2) K X (by omega) h2 h3 (by omega) (by omega) (by omega)
    obtain ⟨l', e1, e2, o', t', s', w', m'⟩ := dcm_spec (mu l2 + 1) l2 (by omega) h2 h3
    obtain ⟨_, _, _, _, _, o2, t2, _, w2, _⟩ := p1_spec l' t' o'
    have hcd := dcm_cf (mu l2) l2 h2 h3
    refine ⟨dcm (mu l2 + 1) l2, ?_, ?_, ?_, fun z hz => ?_, by omega, ?_, fun hx => ?_⟩
    · show Option.bind (DiffCleanupMerge K X (enc l2)) (fun r0 => some r0) = _
      rw [hd]
      rfl
    · rw [e1]; exact o2
    · rw [e1]; exact t2
    · rw [e1, s' z hz, h4 z hz]
    · rw [e1]; omega
    · have := h9 hx rfl
      cases this
theorem CleanEff_ok (K : Nat) (c : Int) (l : List M) (oT : Okm l) (tT : Typed l) (hW : wt l ≤ 4000) (hK : 1000000100 ≤ K) : ∃ l2, CleanEfficiency K (enc l) c = some (enc l2) ∧ Okm l2 ∧ Typed l2 ∧ (∀ z, z = 1 ∨ z = -1 → side z l2 = side z l) ∧ cnt l2 ≤ cnt l ∧ wt l2 ≤ 2 * (2 * wt l + 1) ∧ (c ≤ 0 → l2 = l) := by
  obtain ⟨K, rfl⟩ : ∃ m, K = m + 1 := ⟨K - 1, by omega⟩
  obtain ⟨X, hX⟩ := plain_ok K (by omega)
  have hwl := wt_len l
  obtain ⟨l2, h1, h2, h3, h4, h5, h6, h7⟩ := Eff_ok K (X.1, (c, X.2.2)) l oT tT hW (by omega)
  have hwl2 := wt_len l2
  refine ⟨l2, ?_, h2, h3, h4, h5, h6, h7⟩
  rw [CleanEfficiency_eq, hX, obs, diffs_ok K l (by omega) tT (by omega), obs, h1, obs, back_ok K l2 (by omega) h3 (by omega)]
  rfl
end Go.Proofs.YtblmeoigjbnmiaaDoor.E
