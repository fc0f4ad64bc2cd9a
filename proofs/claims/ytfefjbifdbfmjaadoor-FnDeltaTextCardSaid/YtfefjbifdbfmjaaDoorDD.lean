import Derived.Test.YtfefjbifdbfmjaaDoorDC
/- What the statements' guard says; its two ways. -/
set_option linter.unusedVariables false
set_option linter.unusedSimpArgs false
namespace Go.Proofs.YtfefjbifdbfmjaaDoor.E
open Go.Ev
theorem good_of {l : List TS1.den} (h : l.all (goodD 40 false) = true) : ∀ d ∈ l, d.2.size ≤ 40 ∧ -1 ≤ d.1 ∧ d.1 ≤ 1 ∧ Vt d.2 ∧ d.2 ≠ ⟨#[]⟩ := by
  intro d hd
  have h1 := List.all_eq_true.1 h d hd
  unfold goodD at h1
  simp only [Bool.and_eq_true, decide_eq_true_eq, Bool.not_eq_true', decide_eq_false_iff_not] at h1
  obtain ⟨⟨⟨⟨⟨a, b⟩, c⟩, e⟩, f⟩, _⟩ := h1
  exact ⟨by omega, a, b, (Vt_iff d.2).1 f, c⟩
/-- A statement over a guarded list. -/
theorem guarded {F J0 J1 : Nat → Option Bool} {J0' J1' : Nat → Nat → Option Bool} (K : Nat) (l : List TS1.den) (hK : 3000 ≤ K) (hK2 : 2 * l.length + 10 ≤ K)
    (e0 : F (K + 1) = Option.bind (zzFits3 K l) fun t1 => br (!t1) (some true) (J0' K K))
    (e1 : ∀ k, J0' K (k + 1) = Option.bind (cleanFew K l) fun t2 => br (!t2) (Option.bind (deltaAwake K) fun t3 => some t3) (J1' K k))
    (h : l.length ≤ 12 → (∀ d ∈ l, d.2.size ≤ 40 ∧ -1 ≤ d.1 ∧ d.1 ≤ 1 ∧ Vt d.2 ∧ d.2 ≠ ⟨#[]⟩) → deltaAwake K = some true → ∀ k, 100 ≤ k → J1' K k = some true) : F (K + 1) = some true := by
  have aw : deltaAwake K = some true := by
    have := awake (K - 60)
    rwa [show K - 60 + 60 = K by omega] at this
  rw [e0]
  rcases fits_ok K l hK2 with hf | ⟨hl, b, hf⟩
  · rw [hf]; rfl
  · rw [hf]
    simp only [Option.bind_some]
    cases b with
    | false => rfl
    | true =>
      have e1' := e1 (K - 1)
      rw [show K - 1 + 1 = K by omega] at e1'
      rw [Bool.not_true, br_false, e1', cleanFew_ok _ l hl (by omega)]
      simp only [Option.bind_some]
      cases hg : (decide (l.length ≤ 12) && l.all (goodD 40 false)) with
      | false =>
        rw [Bool.not_false, br_true, aw]
        rfl
      | true =>
        rw [Bool.and_eq_true] at hg
        rw [Bool.not_true, br_false]
        exact h (of_decide_eq_true hg.1) (good_of hg.2) aw _ (by omega)
end Go.Proofs.YtfefjbifdbfmjaaDoor.E
