import Derived.Test.YtblmeoigjbnmiaaDoorYA
/- Lists that are equal, lists within lists: where a list stands in another one. -/
set_option linter.unusedVariables false
set_option linter.unusedSimpArgs false
namespace Go.Proofs.YtblmeoigjbnmiaaDoor.E
open Go.Ev
theorem req_loop (K : Nat) (x y : List Int) (hl : x.length = y.length) (hx : x.length ≤ 1000000) : ∀ (d i k : Nat), i + d = x.length → x.take i = y.take i → 2 * d + 1 ≤ k → runesEqual_l0 K k y x (x.length : Int) (i : Int) = some (decide (x = y))
  | 0, i, k, h, he, hk => by
    obtain ⟨k, rfl⟩ : ∃ m, k = m + 1 := ⟨k - 1, by omega⟩
    rw [runesEqual_l0_eq, br_ge (by omega)]
    have h1 : x.take i = x := List.take_of_length_le (by omega)
    have h2 : y.take i = y := List.take_of_length_le (by omega)
    rw [h1, h2] at he
    rw [decide_eq_true he]
  | d + 1, i, k, h, he, hk => by
    obtain ⟨k, rfl⟩ : ∃ m, k = m + 1 := ⟨k - 1, by omega⟩
    obtain ⟨k, rfl⟩ : ∃ m, k = m + 1 := ⟨k - 1, by omega⟩
    rw [runesEqual_l0_eq, br_lt (by omega), runesEqual_j1_eq, chk_le (by omega), chk_lt (by omega), chk_le (by omega), chk_lt (by omega), rdI x i (by omega), rdI y i (by omega), br_not]
    by_cases e : x[i] = y[i]
    · rw [br_eq e, wrap_id (by omega) (by omega), show (i : Int) + 1 = ((i + 1 : Nat) : Int) by omega]
      exact req_loop K x y hl hx d (i + 1) k (by omega) (by rw [List.take_succ_eq_append_getElem (by omega), List.take_succ_eq_append_getElem (by omega), he, e]) (by omega)
    · rw [br_ne e]
      have : ¬ x = y := by rintro rfl; exact e rfl
      rw [decide_eq_false this]
theorem req_ok (K : Nat) (x y : List Int) (hx : x.length ≤ 1000000) (hK : 2 * x.length + 4 ≤ K) : runesEqual K x y = some (decide (x = y)) := by
  obtain ⟨K, rfl⟩ : ∃ m, K = m + 1 := ⟨K - 1, by omega⟩
  rw [runesEqual_eq, br_not]
  by_cases h : (x.length : Int) = y.length
  · rw [br_eq h]
    obtain ⟨K, rfl⟩ : ∃ m, K = m + 1 := ⟨K - 1, by omega⟩
    rw [runesEqual_j0_eq]
    exact req_loop _ x y (by omega) hx x.length 0 K (by omega) rfl (by omega)
  · rw [br_ne h]
    have : ¬ x = y := by rintro rfl; exact h rfl
    rw [decide_eq_false this]
theorem rix_loop (K : Nat) (x y : List Int) (hx : x.length ≤ 1000000) (hy : y.length ≤ 1000000) (hK : 2 * y.length + 4 ≤ K) : ∀ (d i k : Nat), (i : Int) + d = (x.length : Int) - y.length + 1 → 2 * d + 1 ≤ k →
    (runesIndex_l0 K k x y ((x.length : Int) - y.length) (i : Int) = some (-1) ∧ ∀ j : Nat, i ≤ j → j + y.length ≤ x.length → (x.drop j).take y.length ≠ y) ∨ ∃ j : Nat, j + y.length ≤ x.length ∧ (x.drop j).take y.length = y ∧ runesIndex_l0 K k x y ((x.length : Int) - y.length) (i : Int) = some (j : Int)
  | 0, i, k, h, hk => by
    obtain ⟨k, rfl⟩ : ∃ m, k = m + 1 := ⟨k - 1, by omega⟩
    rw [runesIndex_l0_eq, br_gt (by omega)]
    exact .inl ⟨rfl, fun j h1 h2 => by omega⟩
  | d + 1, i, k, h, hk => by
    obtain ⟨k, rfl⟩ : ∃ m, k = m + 1 := ⟨k - 1, by omega⟩
    obtain ⟨k, rfl⟩ : ∃ m, k = m + 1 := ⟨k - 1, by omega⟩
    rw [runesIndex_l0_eq, br_le (by omega), runesIndex_j0_eq, wrap_id (x := (i : Int) + y.length) (by omega) (by omega), chk_le (by omega), chk_le (by omega), chk_le (by omega), show Int.toNat ((i : Int) + y.length) - Int.toNat (i : Int) = y.length by omega, Int.toNat_natCast, req_ok K _ y (by rw [List.length_take]; omega) (by rw [List.length_take]; omega), obs]
    by_cases e : (x.drop i).take y.length = y
    · rw [decide_eq_true e, br_true]
      exact .inr ⟨i, by omega, e, rfl⟩
    · rw [decide_eq_false e, br_false, wrap_id (by omega) (by omega), show (i : Int) + 1 = ((i + 1 : Nat) : Int) by omega]
      rcases rix_loop K x y hx hy hK d (i + 1) k (by omega) (by omega) with ⟨h1, h2⟩ | h1
      · refine .inl ⟨h1, fun j g1 g2 => ?_⟩
        by_cases hj : j = i
        · subst hj
          exact e
        · exact h2 j (by omega) g2
      · exact .inr h1
theorem rix_ok (K : Nat) (x y : List Int) (hx : x.length ≤ 1000000) (hy : y.length ≤ x.length) (hK : 4 * x.length + 10 ≤ K) :
    (runesIndex K x y = some (-1) ∧ ∀ j : Nat, j + y.length ≤ x.length → (x.drop j).take y.length ≠ y) ∨ ∃ j : Nat, j + y.length ≤ x.length ∧ (x.drop j).take y.length = y ∧ runesIndex K x y = some (j : Int) := by
  obtain ⟨K, rfl⟩ : ∃ m, K = m + 1 := ⟨K - 1, by omega⟩
  rw [runesIndex_eq, wrap_id (by omega) (by omega)]
  rcases rix_loop K x y hx (by omega) (by omega) (x.length - y.length + 1) 0 K (by omega) (by omega) with ⟨h1, h2⟩ | h1
  · exact .inl ⟨h1, fun j g => h2 j (Nat.zero_le _) g⟩
  · exact .inr h1
/-- As runesIndex, whatever the lengths. -/
theorem rix_any (K : Nat) (x y : List Int) (hx : x.length ≤ 1000000) (hy : y.length ≤ 1000000) (hK : 4 * x.length + 10 ≤ K) :
    runesIndex K x y = some (-1) ∨ ∃ j : Nat, j + y.length ≤ x.length ∧ (x.drop j).take y.length = y ∧ runesIndex K x y = some (j : Int) := by
  by_cases h : y.length ≤ x.length
  · rcases rix_ok K x y hx h hK with ⟨h1, _⟩ | h1
    · exact .inl h1
    · exact .inr h1
  · obtain ⟨K, rfl⟩ : ∃ m, K = m + 1 := ⟨K - 1, by omega⟩
    obtain ⟨K, rfl⟩ : ∃ m, K = m + 1 := ⟨K - 1, by omega⟩
    rw [runesIndex_eq, wrap_id (by omega) (by omega), runesIndex_l0_eq, br_gt (by omega)]
    exact .inl rfl
theorem rif_ok (K : Nat) (x y : List Int) (m : Nat) (hx : x.length ≤ 1000000) (hy : y.length ≤ 1000000) (hm : m ≤ 1000000) (hK : 4 * x.length + 30 ≤ K) :
    runesIndexOf K x y (m : Int) = some (-1) ∨ ∃ j : Nat, m ≤ j ∧ j + y.length ≤ x.length ∧ runesIndexOf K x y (m : Int) = some (j : Int) := by
  obtain ⟨K, rfl⟩ : ∃ m, K = m + 1 := ⟨K - 1, by omega⟩
  obtain ⟨K, rfl⟩ : ∃ m, K = m + 1 := ⟨K - 1, by omega⟩
  obtain ⟨K, rfl⟩ : ∃ m, K = m + 1 := ⟨K - 1, by omega⟩
  rw [runesIndexOf_eq, wrap_id (by omega) (by omega)]
  by_cases h : (x.length : Int) - 1 < (m : Int)
  · rw [br_lt h]
    exact .inl rfl
  · rw [br_ge (by omega), runesIndexOf_j0_eq]
    by_cases h0 : (m : Int) ≤ 0
    · rw [br_le h0]
      rcases rix_any (K + 2) x y hx hy (by omega) with h1 | ⟨j, j1, _, j3⟩
      · rw [h1]; exact .inl rfl
      · rw [j3]; exact .inr ⟨j, by omega, j1, rfl⟩
    · rw [br_gt (by omega), runesIndexOf_j1_eq, chk_le (by omega), chk_le (by omega), chk_le (by omega), show (x.drop (Int.toNat (m : Int))).take (Int.toNat (x.length : Int) - Int.toNat (m : Int)) = x.drop m by rw [Int.toNat_natCast, Int.toNat_natCast, List.take_of_length_le (by rw [List.length_drop]; omega)]]
      rcases rix_any (K + 2) (x.drop m) y (by rw [List.length_drop]; omega) hy (by rw [List.length_drop]; omega) with h1 | ⟨j, j1, _, j3⟩
      · rw [h1, obs, br_eq rfl]
        exact .inl rfl
      · rw [List.length_drop] at j1
        rw [j3, obs, br_ne (by omega), wrap_id (by omega) (by omega)]
        exact .inr ⟨j + m, by omega, by omega, by congr 1⟩
end Go.Proofs.YtblmeoigjbnmiaaDoor.E
