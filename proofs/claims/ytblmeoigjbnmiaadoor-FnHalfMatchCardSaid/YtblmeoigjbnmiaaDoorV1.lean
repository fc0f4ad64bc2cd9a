import Derived.Test.YtblmeoigjbnmiaaDoorEvL
import Derived.Test.YtblmeoigjbnmiaaDoorEvQ0
import Derived.Test.YtblmeoigjbnmiaaDoorEvQ1
/- What the small functions answer. -/
set_option linter.unusedVariables false
set_option linter.unusedSimpArgs false
namespace Go.Proofs.YtblmeoigjbnmiaaDoor.E
open Go.Ev
theorem rdI (x : List Int) (i : Nat) (h : i < x.length) : nth (.int .i32) x (i : Int) = x[i] := nth_at (.int .i32) x i h
theorem cpl_loop (K : Nat) (x y : List Int) (hx : x.length ≤ 4611686018427387904) : ∀ (d i k : Nat), i + d = x.length → 2 * d + 1 ≤ k →
    commonPrefixLength_l0 K k x y (i : Int) = some ((i + cpl (x.drop i) (y.drop i) : Nat) : Int)
  | 0, i, k, h, hk => by
    obtain ⟨k, rfl⟩ : ∃ m, k = m + 1 := ⟨k - 1, by omega⟩
    rw [commonPrefixLength_l0_eq]
    simp (disch := omega) only [chk_le, chk_lt, chk_eq, chk_nle, chk_neq, br_lt, br_ge, br_le, br_gt, br_eq, br_ne, br_not, br_true, br_false, br_and, wrap_id, obs, List.length_set, List.length_append, List.length_cons, List.length_nil, List.length_take, List.length_drop]
    rw [cpl_out _ _ (.inl (List.drop_eq_nil_of_le (by omega)))]
    rfl
  | d + 1, i, k, h, hk => by
    obtain ⟨k, rfl⟩ : ∃ m, k = m + 1 := ⟨k - 1, by omega⟩
    rw [commonPrefixLength_l0_eq]
    by_cases hy : i < y.length
    · obtain ⟨k, rfl⟩ : ∃ m, k = m + 1 := ⟨k - 1, by omega⟩
      rw [commonPrefixLength_j0_eq]
      have hxi : i < x.length := by omega
      rw [rdI x i hxi, rdI y i hy, cpl_step x y i hxi hy]
      by_cases he : x[i] = y[i]
      · simp (disch := omega) only [chk_le, chk_lt, chk_eq, chk_nle, chk_neq, br_lt, br_ge, br_le, br_gt, br_eq, br_ne, br_not, br_true, br_false, br_and, wrap_id, obs, List.length_set, List.length_append, List.length_cons, List.length_nil, List.length_take, List.length_drop]
        rw [if_pos he, show (i : Int) + 1 = ((i + 1 : Nat) : Int) by omega, cpl_loop K x y hx d (i + 1) k (by omega) (by omega)]
        congr 2; omega
      · simp (disch := omega) only [chk_le, chk_lt, chk_eq, chk_nle, chk_neq, br_lt, br_ge, br_le, br_gt, br_eq, br_ne, br_not, br_true, br_false, br_and, wrap_id, obs, List.length_set, List.length_append, List.length_cons, List.length_nil, List.length_take, List.length_drop]
        rw [if_neg he]; rfl
    · simp (disch := omega) only [chk_le, chk_lt, chk_eq, chk_nle, chk_neq, br_lt, br_ge, br_le, br_gt, br_eq, br_ne, br_not, br_true, br_false, br_and, wrap_id, obs, List.length_set, List.length_append, List.length_cons, List.length_nil, List.length_take, List.length_drop]
      rw [cpl_out _ _ (.inr (List.drop_eq_nil_of_le (by omega)))]
      rfl
theorem cpl_ok (K : Nat) (x y : List Int) (hx : x.length ≤ 4611686018427387904) (hK : 2 * x.length + 2 ≤ K) : commonPrefixLength K x y = some (cpl x y : Int) := by
  obtain ⟨K, rfl⟩ : ∃ m, K = m + 1 := ⟨K - 1, by omega⟩
  rw [commonPrefixLength_eq]
  have := cpl_loop K x y hx x.length 0 K (by omega) (by omega)
  simpa using this
theorem csl_loop (K : Nat) (x y : List Int) (hx : x.length ≤ 4611686018427387904) (hy : y.length ≤ 4611686018427387904) : ∀ (d n i j k : Nat), n + d = x.length → i + n = x.length → j + n = y.length → 2 * d + 2 ≤ k →
    commonSuffixLength_l0 K k x y (i : Int) (j : Int) (n : Int) = some ((n + cpl (x.reverse.drop n) (y.reverse.drop n) : Nat) : Int)
  | 0, n, i, j, k, h, hi, hj, hk => by
    obtain ⟨k, rfl⟩ : ∃ m, k = m + 1 := ⟨k - 1, by omega⟩
    obtain ⟨k, rfl⟩ : ∃ m, k = m + 1 := ⟨k - 1, by omega⟩
    rw [commonSuffixLength_l0_eq]
    simp (disch := omega) only [chk_le, chk_lt, chk_eq, chk_nle, chk_neq, br_lt, br_ge, br_le, br_gt, br_eq, br_ne, br_not, br_true, br_false, br_and, wrap_id, obs, List.length_set, List.length_append, List.length_cons, List.length_nil, List.length_take, List.length_drop]
    rw [commonSuffixLength_j0_eq]
    simp (disch := omega) only [chk_le, chk_lt, chk_eq, chk_nle, chk_neq, br_lt, br_ge, br_le, br_gt, br_eq, br_ne, br_not, br_true, br_false, br_and, wrap_id, obs, List.length_set, List.length_append, List.length_cons, List.length_nil, List.length_take, List.length_drop]
    rw [cpl_out _ _ (.inl (List.drop_eq_nil_of_le (by simp; omega)))]
    rfl
  | d + 1, n, i, j, k, h, hi, hj, hk => by
    obtain ⟨k, rfl⟩ : ∃ m, k = m + 1 := ⟨k - 1, by omega⟩
    obtain ⟨k, rfl⟩ : ∃ m, k = m + 1 := ⟨k - 1, by omega⟩
    rw [commonSuffixLength_l0_eq]
    obtain ⟨i', rfl⟩ : ∃ i', i = i' + 1 := ⟨i - 1, by omega⟩
    by_cases hj0 : j = 0
    · simp (disch := omega) only [chk_le, chk_lt, chk_eq, chk_nle, chk_neq, br_lt, br_ge, br_le, br_gt, br_eq, br_ne, br_not, br_true, br_false, br_and, wrap_id, obs, List.length_set, List.length_append, List.length_cons, List.length_nil, List.length_take, List.length_drop]
      rw [commonSuffixLength_j0_eq]
      simp (disch := omega) only [chk_le, chk_lt, chk_eq, chk_nle, chk_neq, br_lt, br_ge, br_le, br_gt, br_eq, br_ne, br_not, br_true, br_false, br_and, wrap_id, obs, List.length_set, List.length_append, List.length_cons, List.length_nil, List.length_take, List.length_drop]
      rw [cpl_out _ _ (.inr (List.drop_eq_nil_of_le (by simp; omega)))]
      rfl
    · obtain ⟨j', rfl⟩ : ∃ j', j = j' + 1 := ⟨j - 1, by omega⟩
      simp (disch := omega) only [chk_le, chk_lt, chk_eq, chk_nle, chk_neq, br_lt, br_ge, br_le, br_gt, br_eq, br_ne, br_not, br_true, br_false, br_and, wrap_id, obs, List.length_set, List.length_append, List.length_cons, List.length_nil, List.length_take, List.length_drop]
      rw [show ((i' + 1 : Nat) : Int) - 1 = (i' : Int) by omega, show ((j' + 1 : Nat) : Int) - 1 = (j' : Int) by omega, rdI x i' (by omega), rdI y j' (by omega)]
      have e1 : x.reverse[n]'(by simp; omega) = x[i']'(by omega) := by rw [List.getElem_reverse]; congr 1; omega
      have e2 : y.reverse[n]'(by simp; omega) = y[j']'(by omega) := by rw [List.getElem_reverse]; congr 1; omega
      rw [cpl_step x.reverse y.reverse n (by simp; omega) (by simp; omega), e1, e2, commonSuffixLength_j0_eq]
      by_cases he : x[i'] = y[j']
      · simp (disch := omega) only [chk_le, chk_lt, chk_eq, chk_nle, chk_neq, br_lt, br_ge, br_le, br_gt, br_eq, br_ne, br_not, br_true, br_false, br_and, wrap_id, obs, List.length_set, List.length_append, List.length_cons, List.length_nil, List.length_take, List.length_drop]
        rw [if_pos he, show (n : Int) + 1 = ((n + 1 : Nat) : Int) by omega, csl_loop K x y hx hy d (n + 1) i' j' k (by omega) (by omega) (by omega) (by omega)]
        congr 2; omega
      · simp (disch := omega) only [chk_le, chk_lt, chk_eq, chk_nle, chk_neq, br_lt, br_ge, br_le, br_gt, br_eq, br_ne, br_not, br_true, br_false, br_and, wrap_id, obs, List.length_set, List.length_append, List.length_cons, List.length_nil, List.length_take, List.length_drop]
        rw [if_neg he]; rfl
theorem csl_ok (K : Nat) (x y : List Int) (hx : x.length ≤ 4611686018427387904) (hy : y.length ≤ 4611686018427387904) (hK : 2 * x.length + 3 ≤ K) : commonSuffixLength K x y = some (csl x y : Int) := by
  obtain ⟨K, rfl⟩ : ∃ m, K = m + 1 := ⟨K - 1, by omega⟩
  rw [commonSuffixLength_eq]
  have := csl_loop K x y hx hy x.length 0 x.length y.length K (by omega) (by omega) (by omega) (by omega)
  simpa [csl] using this
end Go.Proofs.YtblmeoigjbnmiaaDoor.E
