import Derived.Test.YtmlfecgppnffgaaDoorRF
import Derived.Test.YtmlfecgppnffgaaDoorRM
/- Lists that are equal, lists within lists; a bisection's bound; texts without common ends. -/
set_option linter.unusedVariables false
set_option linter.unusedSimpArgs false
namespace Go.Proofs.YtmlfecgppnffgaaDoor.E
open Go.Ev
theorem req_loop (K : Nat) (x y : List Int) (hl : x.length = y.length) (hx : x.length ≤ 1000000) : ∀ (d i k : Nat), i + d = x.length → x.take i = y.take i → 2 * d + 1 ≤ k → runesEqual_l0 K k y x (x.length : Int) (i : Int) = some (decide (x = y))
  | 0, i, k, h, he, hk => by
    obtain ⟨k, rfl⟩ : ∃ m, k = m + 1 := ⟨k - 1, by omega⟩
    rw [runesEqual_l0_eq, br_ge (by omega)]
    have h1 : x.take i = x := List.take_of_length_le (by omega)
    have h2 : y.take i = y := List.take_of_length_le (by omega)
    rw [h1, h2] at he
    rw [decide_eq_true he]
  | d + 1, i, k, h, he, hk => by
    obtain ⟨k, rfl⟩ : ∃ m, k = m + 1 := ⟨k - 1, by omega⟩
    obtain ⟨k, rfl⟩ : ∃ m, k = m + 1 := ⟨k - 1, by omega⟩
    rw [runesEqual_l0_eq, br_lt (by omega), runesEqual_j1_eq, chk_le (by omega), chk_lt (by omega), chk_le (by omega), chk_lt (by omega), rdI x i (by omega), rdI y i (by omega), br_not]
    by_cases e : x[i] = y[i]
    · rw [br_eq e, wrap_id (by omega) (by omega), show (i : Int) + 1 = ((i + 1 : Nat) : Int) by omega]
      exact req_loop K x y hl hx d (i + 1) k (by omega) (by rw [List.take_succ_eq_append_getElem (by omega), List.take_succ_eq_append_getElem (by omega), he, e]) (by omega)
    · rw [br_ne e]
      have : ¬ x = y := by rintro rfl; exact e rfl
      rw [decide_eq_false this]
theorem req_ok (K : Nat) (x y : List Int) (hx : x.length ≤ 1000000) (hK : 2 * x.length + 4 ≤ K) : runesEqual K x y = some (decide (x = y)) := by
  obtain ⟨K, rfl⟩ : ∃ m, K = m + 1 := ⟨K - 1, by omega⟩
  rw [runesEqual_eq, br_not]
  by_cases h : (x.length : Int) = y.length
  · rw [br_eq h]
    obtain ⟨K, rfl⟩ : ∃ m, K = m + 1 := ⟨K - 1, by omega⟩
    rw [runesEqual_j0_eq]
    exact req_loop _ x y (by omega) hx x.length 0 K (by omega) rfl (by omega)
  · rw [br_ne h]
    have : ¬ x = y := by rintro rfl; exact h rfl
    rw [decide_eq_false this]
theorem rix_loop (K : Nat) (x y : List Int) (hx : x.length ≤ 1000000) (hy : y.length ≤ 1000000) (hK : 2 * y.length + 4 ≤ K) : ∀ (d i k : Nat), (i : Int) + d = (x.length : Int) - y.length + 1 → 2 * d + 1 ≤ k →
    (runesIndex_l0 K k x y ((x.length : Int) - y.length) (i : Int) = some (-1) ∧ ∀ j : Nat, i ≤ j → j + y.length ≤ x.length → (x.drop j).take y.length ≠ y) ∨ ∃ j : Nat, j + y.length ≤ x.length ∧ (x.drop j).take y.length = y ∧ runesIndex_l0 K k x y ((x.length : Int) - y.length) (i : Int) = some (j : Int)
  | 0, i, k, h, hk => by
    obtain ⟨k, rfl⟩ : ∃ m, k = m + 1 := ⟨k - 1, by omega⟩
    rw [runesIndex_l0_eq, br_gt (by omega)]
    exact .inl ⟨rfl, fun j h1 h2 => by omega⟩
  | d + 1, i, k, h, hk => by
    obtain ⟨k, rfl⟩ : ∃ m, k = m + 1 := ⟨k - 1, by omega⟩
    obtain ⟨k, rfl⟩ : ∃ m, k = m + 1 := ⟨k - 1, by omega⟩
    rw [runesIndex_l0_eq, br_le (by omega), runesIndex_j0_eq, wrap_id (x := (i : Int) + y.length) (by omega) (by omega), chk_le (by omega), chk_le (by omega), chk_le (by omega), show Int.toNat ((i : Int) + y.length) - Int.toNat (i : Int) = y.length by omega, Int.toNat_natCast, req_ok K _ y (by rw [List.length_take]; omega) (by rw [List.length_take]; omega), Option.bind_some]
    by_cases e : (x.drop i).take y.length = y
    · rw [decide_eq_true e, br_true]
      exact .inr ⟨i, by omega, e, rfl⟩
    · rw [decide_eq_false e, br_false, wrap_id (by omega) (by omega), show (i : Int) + 1 = ((i + 1 : Nat) : Int) by omega]
      rcases rix_loop K x y hx hy hK d (i + 1) k (by omega) (by omega) with ⟨h1, h2⟩ | h1
      · refine .inl ⟨h1, fun j g1 g2 => ?_⟩
        by_cases hj : j = i
        · subst hj
          exact e
        · exact h2 j (by omega) g2
      · exact .inr h1
theorem rix_ok (K : Nat) (x y : List Int) (hx : x.length ≤ 1000000) (hy : y.length ≤ x.length) (hK : 4 * x.length + 10 ≤ K) :
    (runesIndex K x y = some (-1) ∧ ∀ j : Nat, j + y.length ≤ x.length → (x.drop j).take y.length ≠ y) ∨ ∃ j : Nat, j + y.length ≤ x.length ∧ (x.drop j).take y.length = y ∧ runesIndex K x y = some (j : Int) := by
  obtain ⟨K, rfl⟩ : ∃ m, K = m + 1 := ⟨K - 1, by omega⟩
  rw [runesIndex_eq, wrap_id (by omega) (by omega)]
  rcases rix_loop K x y hx (by omega) (by omega) (x.length - y.length + 1) 0 K (by omega) (by omega) with ⟨h1, h2⟩ | h1
  · exact .inl ⟨h1, fun j g => h2 j (Nat.zero_le _) g⟩
  · exact .inr h1
/-- Without a common beginning and a common end at least two edits are wanted. -/
theorem ed_two : ∀ (a b : List Int), a ≠ [] → b ≠ [] → cpl a b = 0 → csl a b = 0 → 2 ≤ ed a b
  | [], _, h, _, _, _ => absurd rfl h
  | _ :: _, [], _, h, _, _ => absurd rfl h
  | x :: a, y :: b, _, _, h1, h2 => by
    have hxy : x ≠ y := by
      rintro rfl
      simp [cpl] at h1
    rw [ed_cons, if_neg hxy]
    have last : ∀ (u v : List Int), u ≠ [] → u <:+ v → csl v u ≠ 0 := by
      intro u v hu ⟨q, hq⟩ h0
      subst hq
      unfold csl at h0
      rw [List.reverse_append] at h0
      cases hr : u.reverse with
      | nil => exact hu (by simpa using hr)
      | cons z r =>
        rw [hr] at h0
        simp [cpl] at h0
    have sym : ∀ u v : List Int, cpl u v = cpl v u := by
      intro u
      induction u with
      | nil => intro v; cases v <;> rfl
      | cons z u ih =>
        intro v
        cases v with
        | nil => rfl
        | cons t v =>
          simp only [cpl]
          by_cases e : z = t
          · subst e
            simp [ih v]
          · rw [if_neg e, if_neg (fun h => e h.symm)]
    have n1 : ed a (y :: b) ≠ 0 := by
      intro e
      have e := ed_zero e
      exact last (y :: b) (x :: a) (by simp) ⟨[x], by rw [e]; rfl⟩ h2
    have n2 : ed (x :: a) b ≠ 0 := by
      intro e
      have e := ed_zero e
      refine last (x :: a) (y :: b) (by simp) ⟨[y], by rw [e]; rfl⟩ ?_
      unfold csl at h2 ⊢
      rw [sym]
      exact h2
    omega
theorem bisect_all (X : TS1.den) (s : Nat) (hs : s ≤ 100000) : ∃ F : Nat, ∀ (a b : List Int) (K : Nat), 3 ≤ a.length + b.length → a.length + b.length ≤ s → F ≤ K → Out K X a b (diffBisect (K + 1) X a b) := by
  obtain ⟨F, hF⟩ : ∃ F : Nat, F = s * (2 * (s * (2 * s + 20)) + 20) + 4 * s + 100 := ⟨_, rfl⟩
  refine ⟨F, fun a b K h3 hl hK => bisect_ok X a b h3 (by omega) K ?_⟩
  have e1 : (a.length + b.length + 1) / 2 * (2 * a.length + 20) ≤ s * (2 * s + 20) := Nat.mul_le_mul (by omega) (by omega)
  have e2 : (a.length + b.length + 1) / 2 * (2 * ((a.length + b.length + 1) / 2 * (2 * a.length + 20)) + 20) ≤ s * (2 * (s * (2 * s + 20)) + 20) := Nat.mul_le_mul (by omega) (by omega)
  omega
end Go.Proofs.YtmlfecgppnffgaaDoor.E
