import Derived.Test.YtblmeoigjbnmiaaDoorYG
/- A half match is what stands ahead of a common middle and behind it in both texts. -/
set_option linter.unusedVariables false
set_option linter.unusedSimpArgs false
namespace Go.Proofs.YtblmeoigjbnmiaaDoor.E
open Go.Ev
theorem Pure.FnHalfMatch (x y : ByteArray) (_hx : x.size ≤ 9223372036854775807) (_hy : y.size ≤ 9223372036854775807) : ∃ k, callF k 3 (x, y, ()) = some true := by
  obtain ⟨K, hK0⟩ : ∃ K, K = 5999999940 := ⟨_, rfl⟩
  refine ⟨K + 60 + 1, ?_⟩
  show E.FnHalfMatch (K + 60 + 1) x y = some true
  have hK : 5999999940 ≤ K := by omega
  clear hK0
  obtain ⟨k, hk⟩ : ∃ m, K + 60 = m + 6 := ⟨K + 54, by omega⟩
  rw [FnHalfMatch_eq]
  have big : ∀ j, FnHalfMatch_j0 (K + 60) (j + 1) x y true = some true := by
    intro j
    rw [FnHalfMatch_j0_eq, br_true]
  have j0e : ∀ b, FnHalfMatch_j0 (K + 60) (K + 60) x y b = FnHalfMatch_j0 (K + 60) (k + 6) x y b := fun b => by rw [← hk]
  rw [j0e, j0e]
  by_cases h1 : (2147483647 : Int) < ((ByteArray.size x) : Int)
  · rw [br_lt h1]
    exact big _
  rw [br_ge (by omega)]
  by_cases h2 : (2147483647 : Int) < ((ByteArray.size y) : Int)
  · rw [show ltI (2147483647 : Int) ((ByteArray.size y) : Int) = true by rw [ltI_eq]; exact decide_eq_true h2]
    exact big _
  rw [show ltI (2147483647 : Int) ((ByteArray.size y) : Int) = false by rw [ltI_eq]; exact decide_eq_false h2, FnHalfMatch_j0_eq, br_false, FnHalfMatch_j1_eq]
  have skip : ∀ j, FnHalfMatch_j2 (K + 60) (j + 1) x y true = some true := by
    intro j
    rw [FnHalfMatch_j2_eq, br_true]
  rw [isDiffText_ok (K + 60) x 120 (by omega) (by omega) (by omega) (by omega), obs]
  cases tx : txt 120 x with
  | false =>
    rw [br_not, br_false]
    exact skip _
  | true =>
    rw [br_not, br_true, isDiffText_ok (K + 60) y 120 (by omega) (by omega) (by omega) (by omega), obs]
    cases ty : txt 120 y with
    | false => exact skip _
    | true =>
      rw [show (!true) = false from rfl, FnHalfMatch_j2_eq, br_false, FnHalfMatch_j3_eq]
      obtain ⟨vx, lx⟩ := txt_vt tx
      obtain ⟨vy, ly⟩ := txt_vt ty
      obtain ⟨la, ea, ka⟩ := awakeH K
      obtain ⟨l, el, hl, hnone⟩ := HM_ok (K + 60) x y (by omega) (by omega) (by omega)
      have cx : RuneCountInString (K + 60) x = some ((runesI x).length : Int) := by
        have := count_ok (K + 60) vx.okl (by omega) (by omega)
        rwa [vx.back] at this
      have cy : RuneCountInString (K + 60) y = some ((runesI y).length : Int) := by
        have := count_ok (K + 60) vy.okl (by omega) (by omega)
        rwa [vy.back] at this
      rw [el, obs, ea, obs]
      rcases hl with rfl | ⟨T0, T1, T2, T3, T4, rfl, k1, k2, k3, k4⟩
      · rw [br_eq (show ((List.length ([] : List ByteArray) : Nat) : Int) = 0 from rfl), ka, eqI_eq]
        rfl
      · have ox := vx.okl
        have oy := vy.okl
        rw [← k1] at ox
        rw [← k2] at oy
        have o0 : Okl T0 := fun r hr => ox r (by simp [hr])
        have o4 : Okl T4 := fun r hr => ox r (by simp [hr])
        have o1 : Okl T1 := fun r hr => ox r (by simp [hr])
        have o2 : Okl T2 := fun r hr => oy r (by simp [hr])
        have o3 : Okl T3 := fun r hr => oy r (by simp [hr])
        have z1 := congrArg List.length k1
        have z2 := congrArg List.length k2
        simp only [List.length_append] at z1 z2
        have s0 := size_le o0
        have s1 := size_le o1
        have s2 := size_le o2
        have s3 := size_le o3
        have s4 := size_le o4
        rw [br_ne (by show ¬ (((5 : Nat) : Int) = 0); omega), FnHalfMatch_j4_eq, br_not, br_eq (by show ((5 : Nat) : Int) = 5; rfl), FnHalfMatch_j5_eq, cx, obs, cy, obs]
        have n0 : nth .str [strOfRunes T0, strOfRunes T1, strOfRunes T2, strOfRunes T3, strOfRunes T4] (0 : Int) = strOfRunes T0 := rfl
        have n1 : nth .str [strOfRunes T0, strOfRunes T1, strOfRunes T2, strOfRunes T3, strOfRunes T4] (1 : Int) = strOfRunes T1 := rfl
        have n2 : nth .str [strOfRunes T0, strOfRunes T1, strOfRunes T2, strOfRunes T3, strOfRunes T4] (2 : Int) = strOfRunes T2 := rfl
        have n3 : nth .str [strOfRunes T0, strOfRunes T1, strOfRunes T2, strOfRunes T3, strOfRunes T4] (3 : Int) = strOfRunes T3 := rfl
        have n4 : nth .str [strOfRunes T0, strOfRunes T1, strOfRunes T2, strOfRunes T3, strOfRunes T4] (4 : Int) = strOfRunes T4 := rfl
        have n5 : (List.length [strOfRunes T0, strOfRunes T1, strOfRunes T2, strOfRunes T3, strOfRunes T4] : Int) = 5 := rfl
        rw [n0, n1, n2, n3, n4, n5, app_str, app_str, app_str, app_str, List.append_assoc, List.append_assoc, k1, k2, vx.back, vy.back]
        have a1 : (strOfRunes (T0 ++ T4)).size = (strOfRunes T0).size + (strOfRunes T4).size := size_app' _ _
        have a2 : (strOfRunes (T2 ++ T4)).size = (strOfRunes T2).size + (strOfRunes T4).size := size_app' _ _
        have eqt : ∀ (s : ByteArray) {R : Type} (a b : R), br (eqS s s) a b = a := fun s R a b => by rw [eqS_iff, decide_eq_true rfl]; rfl
        rw [chk_le (by omega), chk_lt (by omega), chk_le (by omega), chk_lt (by omega), chk_nle (by omega), chk_le (by omega), chk_lt (by omega), chk_nle (by omega), eqt, chk_le (by omega), chk_lt (by omega), chk_le (by omega), chk_lt (by omega), chk_nle (by omega), chk_le (by omega), chk_lt (by omega), chk_nle (by omega), eqt, chk_le (by omega), chk_lt (by omega), count_ok (K + 60) o4 (by omega) (by omega), obs, wrap_id (by omega) (by omega)]
        have c1 : cond (ltI ((runesI x).length : Int) ((runesI y).length : Int)) ((runesI y).length : Int) ((runesI x).length : Int) ≤ 2 * (T4.length : Int) := by
          rw [ltI_eq]
          by_cases c : ((runesI x).length : Int) < ((runesI y).length : Int)
          · rw [decide_eq_true c, cond_true]; omega
          · rw [decide_eq_false c, cond_false]; omega
        rw [br_le c1, ka, eqI_eq]
        rfl
end Go.Proofs.YtblmeoigjbnmiaaDoor.E
