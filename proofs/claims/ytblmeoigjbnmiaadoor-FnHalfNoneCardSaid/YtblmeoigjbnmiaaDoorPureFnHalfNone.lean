import Derived.Test.YtblmeoigjbnmiaaDoorYG
/- There is no half match of texts that are too short, or too different in length. -/
set_option linter.unusedVariables false
set_option linter.unusedSimpArgs false
namespace Go.Proofs.YtblmeoigjbnmiaaDoor.E
open Go.Ev
theorem Pure.FnHalfNone (x y : ByteArray) (_hx : x.size ≤ 9223372036854775807) (_hy : y.size ≤ 9223372036854775807) : ∃ k, callF k 4 (x, y, ()) = some true := by
  obtain ⟨K, hK0⟩ : ∃ K, K = 5999999940 := ⟨_, rfl⟩
  refine ⟨K + 60 + 1, ?_⟩
  show E.FnHalfNone (K + 60 + 1) x y = some true
  have hK : 5999999940 ≤ K := by omega
  clear hK0
  obtain ⟨k, hk⟩ : ∃ m, K + 60 = m + 6 := ⟨K + 54, by omega⟩
  rw [FnHalfNone_eq]
  have big : ∀ j, FnHalfNone_j0 (K + 60) (j + 1) x y true = some true := by
    intro j
    rw [FnHalfNone_j0_eq, br_true]
  have j0e : ∀ b, FnHalfNone_j0 (K + 60) (K + 60) x y b = FnHalfNone_j0 (K + 60) (k + 6) x y b := fun b => by rw [← hk]
  rw [j0e, j0e]
  by_cases h1 : (2147483647 : Int) < ((ByteArray.size x) : Int)
  · rw [br_lt h1]
    exact big _
  rw [br_ge (by omega)]
  by_cases h2 : (2147483647 : Int) < ((ByteArray.size y) : Int)
  · rw [show ltI (2147483647 : Int) ((ByteArray.size y) : Int) = true by rw [ltI_eq]; exact decide_eq_true h2]
    exact big _
  rw [show ltI (2147483647 : Int) ((ByteArray.size y) : Int) = false by rw [ltI_eq]; exact decide_eq_false h2, FnHalfNone_j0_eq, br_false, FnHalfNone_j1_eq]
  have skip : ∀ j, FnHalfNone_j2 (K + 60) (j + 1) x y true = some true := by
    intro j
    rw [FnHalfNone_j2_eq, br_true]
  rw [isDiffText_ok (K + 60) x 120 (by omega) (by omega) (by omega) (by omega), obs]
  cases tx : txt 120 x with
  | false =>
    rw [br_not, br_false]
    exact skip _
  | true =>
    rw [br_not, br_true, isDiffText_ok (K + 60) y 120 (by omega) (by omega) (by omega) (by omega), obs]
    cases ty : txt 120 y with
    | false => exact skip _
    | true =>
      rw [show (!true) = false from rfl, FnHalfNone_j2_eq, br_false, FnHalfNone_j3_eq]
      obtain ⟨vx, lx⟩ := txt_vt tx
      obtain ⟨vy, ly⟩ := txt_vt ty
      obtain ⟨la, ea, ka⟩ := awakeH K
      obtain ⟨l, el, hl, hnone⟩ := HM_ok (K + 60) x y (by omega) (by omega) (by omega)
      have cx : RuneCountInString (K + 60) x = some ((runesI x).length : Int) := by
        have := count_ok (K + 60) vx.okl (by omega) (by omega)
        rwa [vx.back] at this
      have cy : RuneCountInString (K + 60) y = some ((runesI y).length : Int) := by
        have := count_ok (K + 60) vy.okl (by omega) (by omega)
        rwa [vy.back] at this
      rw [cx, obs, cy, obs]
      have c1 : cond (ltI ((runesI x).length : Int) ((runesI y).length : Int)) ((runesI y).length : Int) ((runesI x).length : Int) = ((max (runesI x).length (runesI y).length : Nat) : Int) := by
        rw [ltI_eq]
        by_cases c : ((runesI x).length : Int) < ((runesI y).length : Int)
        · rw [decide_eq_true c, cond_true]; omega
        · rw [decide_eq_false c, cond_false]; omega
      have c2 : cond (ltI ((runesI y).length : Int) ((runesI x).length : Int)) ((runesI y).length : Int) ((runesI x).length : Int) = ((min (runesI x).length (runesI y).length : Nat) : Int) := by
        rw [ltI_eq]
        by_cases c : ((runesI y).length : Int) < ((runesI x).length : Int)
        · rw [decide_eq_true c, cond_true]; omega
        · rw [decide_eq_false c, cond_false]; omega
      rw [c1, c2, wrap_id (by omega) (by omega)]
      have fin : (max (runesI x).length (runesI y).length < 4 ∨ 2 * min (runesI x).length (runesI y).length < max (runesI x).length (runesI y).length) → FnHalfNone_j4 (K + 60) (k + 2) x y false = some true := by
        intro hc
        have := hnone hc
        subst this
        rw [FnHalfNone_j4_eq, br_false, FnHalfNone_j5_eq, el, obs, br_eq (show ((List.length ([] : List ByteArray) : Nat) : Int) = 0 from rfl), ea, obs, ka, eqI_eq]
        rfl
      by_cases h4 : (4 : Int) ≤ ((max (runesI x).length (runesI y).length : Nat) : Int)
      · rw [br_le h4]
        by_cases h5 : ((max (runesI x).length (runesI y).length : Nat) : Int) ≤ 2 * ((min (runesI x).length (runesI y).length : Nat) : Int)
        · rw [show leI ((max (runesI x).length (runesI y).length : Nat) : Int) (2 * ((min (runesI x).length (runesI y).length : Nat) : Int)) = true by rw [leI_eq]; exact decide_eq_true h5, FnHalfNone_j4_eq, br_true]
        · rw [show leI ((max (runesI x).length (runesI y).length : Nat) : Int) (2 * ((min (runesI x).length (runesI y).length : Nat) : Int)) = false by rw [leI_eq]; exact decide_eq_false h5]
          exact fin (.inr (by omega))
      · rw [br_gt (by omega)]
        exact fin (.inl (by omega))
end Go.Proofs.YtblmeoigjbnmiaaDoor.E
