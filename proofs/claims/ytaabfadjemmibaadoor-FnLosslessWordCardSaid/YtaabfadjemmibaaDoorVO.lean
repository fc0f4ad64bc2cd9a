import Derived.Test.YtaabfadjemmibaaDoorVN
/- Edits of two lists that are of the same types and lengths. -/
set_option linter.unusedVariables false
set_option linter.unusedSimpArgs false
namespace Go.Proofs.YtaabfadjemmibaaDoor.E
open Go.Ev
theorem nthB (A B : List M) (m : M) (i : Nat) (h : i = A.length) : nth TS0 (enc (A ++ m :: B)) (i : Int) = (m.1, strOfRunes m.2) := nth_enc A B m _ (by rw [h])
theorem shift_end (K : Nat) : ∀ (Q P : List M) (k : Nat), shp Q = [] → P.length + Q.length ≤ 1000000 → 2 * Q.length + 2 ≤ k → CleanShifted_l1 K k (enc (P ++ Q)) (P.length : Int) = some true
  | [], P, k, _, hl, hk => by
    obtain ⟨k, rfl⟩ : ∃ m, k = m + 2 := ⟨k - 2, by omega⟩
    rw [CleanShifted_l1_eq, enc_len, List.append_nil, br_ge (by omega), CleanShifted_j2_eq, enc_len, eqI_t rfl]
  | m :: Q, P, k, hs, hl, hk => by
    obtain ⟨k, rfl⟩ : ∃ m, k = m + 2 := ⟨k - 2, by omega⟩
    simp only [List.length_cons] at hl hk
    have hm : m.1 = 0 := by
      unfold shp at hs
      split at hs
      · assumption
      · cases hs
    have hs' : shp Q = [] := by
      unfold shp at hs
      rw [if_pos hm] at hs
      exact hs
    have hlM : (enc (P ++ m :: Q)).length = P.length + Q.length + 1 := by rw [enc_len]; simp; omega
    rw [CleanShifted_l1_eq, hlM, nthB P Q m _ rfl, br_lt (by omega), chk_le (by omega), chk_lt (by omega)]
    simp only []
    rw [br_eq hm, CleanShifted_j1_eq, wrap_id (by omega) (by omega)]
    have := shift_end K Q (P ++ [m]) k hs' (by simp; omega) (by omega)
    simpa using this
theorem shift_skip (K : Nat) (u : TS0.den) (A : List TS0.den) (n p : Int) : ∀ (Q P : List M) (t : Int) (w : Nat) (r : List (Int × Nat)) (k : Nat), shp Q = (t, w) :: r → P.length + Q.length ≤ 1000000 → 2 * Q.length + 2 ≤ k →
    ∃ k' Z m Q', Q = Z ++ m :: Q' ∧ m.1 = t ∧ m.2.length = w ∧ shp Q' = r ∧ k ≤ k' + (2 * Z.length + 1) ∧ CleanShifted_l2 K k (enc (P ++ Q)) (P.length : Int) 0 [u] A n p = CleanShifted_j4 K k' (enc (P ++ Q)) ((P.length + Z.length : Nat) : Int) 0 [u] A n p
  | [], P, t, w, r, k, hs, hl, hk => by cases hs
  | m :: Q, P, t, w, r, k, hs, hl, hk => by
    obtain ⟨k, rfl⟩ : ∃ m, k = m + 2 := ⟨k - 2, by omega⟩
    simp only [List.length_cons] at hl hk
    have hlM : (enc (P ++ m :: Q)).length = P.length + Q.length + 1 := by rw [enc_len]; simp; omega
    rw [CleanShifted_l2_eq, hlM, nthB P Q m _ rfl, br_lt (by omega), chk_le (by omega), chk_lt (by omega)]
    simp only []
    unfold shp at hs
    by_cases hm : m.1 = 0
    · rw [if_pos hm] at hs
      rw [br_eq hm, CleanShifted_j3_eq, wrap_id (by omega) (by omega)]
      obtain ⟨k', Z, m', Q', h1, h2, h3, h4, h5, h6⟩ := shift_skip K u A n p Q (P ++ [m]) t w r k hs (by simp; omega) (by omega)
      refine ⟨k', m :: Z, m', Q', by rw [h1]; rfl, h2, h3, h4, by simp only [List.length_cons]; omega, ?_⟩
      have e1 : (P ++ [m]) ++ Q = P ++ m :: Q := by simp
      have e2 : (((P ++ [m]).length : Nat) : Int) = (P.length : Int) + 1 := by simp
      have e3 : (((P ++ [m]).length + Z.length : Nat) : Int) = ((P.length + (m :: Z).length : Nat) : Int) := by simp; omega
      rw [e1, e2, e3] at h6
      exact h6
    · rw [if_neg hm] at hs
      injection hs with h1 h2
      injection h1 with h3 h4
      rw [br_ne hm]
      exact ⟨k + 1, [], m, Q, rfl, h3, h4, h2, by simp, rfl⟩
theorem shift_loop (K : Nat) : ∀ (A P Q R : List M) (k : Nat), shp A = shp R → Ascm A → Ascm R → P.length + A.length ≤ 1000000 → Q.length + R.length ≤ 1000000 → 6 * A.length + 2 * R.length + 6 ≤ k →
    CleanShifted_l0 K k (enc (Q ++ R)) (Q.length : Int) (enc (P ++ A)) ((P ++ A).length : Int) (P.length : Int) = some true
  | [], P, Q, R, k, hs, aA, aR, h1, h2, hk => by
    obtain ⟨k, rfl⟩ : ∃ m, k = m + 1 := ⟨k - 1, by omega⟩
    rw [CleanShifted_l0_eq, List.append_nil, br_ge (by omega)]
    exact shift_end K R Q k hs.symm h2 (by omega)
  | m :: A, P, Q, R, k, hs, aA, aR, h1, h2, hk => by
    obtain ⟨k, rfl⟩ : ∃ z, k = z + 2 := ⟨k - 2, by omega⟩
    simp only [List.length_cons] at h1 hk
    have hlM : (P ++ m :: A).length = P.length + A.length + 1 := by simp; omega
    have hlE : (enc (P ++ m :: A)).length = P.length + A.length + 1 := by rw [enc_len]; exact hlM
    rw [CleanShifted_l0_eq, hlM, br_lt (by omega), CleanShifted_j0_eq, hlE, nthB P A m _ rfl, chk_le (by omega), chk_lt (by omega)]
    simp only []
    have aA' : Ascm A := fun x hx => aA x (List.mem_cons_of_mem _ hx)
    have e1 : (P ++ [m]) ++ A = P ++ m :: A := by simp
    have e2 : (((P ++ [m]).length : Nat) : Int) = ((P.length + 1 : Nat) : Int) := by simp
    have w1 : IntKind.i64.wrap ((P.length : Int) + 1) = ((P.length + 1 : Nat) : Int) := by rw [wrap_id (by omega) (by omega)]; omega
    by_cases hm : m.1 = 0
    · have hs' : shp A = shp R := by rw [← hs, shp, if_pos hm]
      have ih := shift_loop K A (P ++ [m]) Q R k hs' aA' aR (by simp; omega) h2 (by omega)
      rw [e1, e2, hlM] at ih
      rw [br_eq hm, w1]
      exact ih
    · rw [br_ne hm]
      have hs' : shp R = (m.1, m.2.length) :: shp A := by rw [← hs, shp, if_neg hm]
      obtain ⟨k', Z, m', R', g1, g2, g3, g4, g5, g6⟩ := shift_skip K (m.1, strOfRunes m.2) (enc (P ++ m :: A)) ((P.length + A.length + 1 : Nat) : Int) (P.length : Int) R Q m.1 m.2.length (shp A) k hs' h2 (by omega)
      have lR := congrArg List.length g1
      simp only [List.length_append, List.length_cons] at lR
      obtain ⟨k', rfl⟩ : ∃ z, k' = z + 2 := ⟨k' - 2, by omega⟩
      have eR : Q ++ R = (Q ++ Z) ++ m' :: R' := by rw [g1]; simp
      have hlR : (enc (Q ++ R)).length = Q.length + Z.length + R'.length + 1 := by rw [enc_len]; simp; omega
      have nR : nth TS0 (enc (Q ++ R)) ((Q.length + Z.length : Nat) : Int) = (m'.1, strOfRunes m'.2) := by
        rw [eR]
        exact nthB (Q ++ Z) R' m' _ (by simp)
      have n0 : ∀ x : TS0.den, nth TS0 [x] 0 = x := fun _ => rfl
      have am := aA m (List.mem_cons_self ..)
      have am' := aR m' (by rw [g1]; simp)
      have w2 : IntKind.i64.wrap (((Q.length + Z.length : Nat) : Int) + 1) = ((Q.length + Z.length + 1 : Nat) : Int) := by rw [wrap_id (by omega) (by omega)]; omega
      rw [g6, CleanShifted_j4_eq, hlR, nR, n0]
      simp only []
      rw [br_ne (by omega), chk_le (by omega), chk_lt (by omega), br_not, br_eq g2, chk_le (by omega), chk_lt (by omega), size_asc am, size_asc am', eqI_t (by omega), Bool.not_true, CleanShifted_j5_eq, br_false, w1, w2]
      have ih := shift_loop K A (P ++ [m]) (Q ++ Z ++ [m']) R' k' g4.symm aA' (fun x hx => aR x (by rw [g1]; simp [hx])) (by simp; omega) (by simp; omega) (by omega)
      have e3 : Q ++ Z ++ [m'] ++ R' = Q ++ R := by rw [g1]; simp
      have e4 : (((Q ++ Z ++ [m']).length : Nat) : Int) = ((Q.length + Z.length + 1 : Nat) : Int) := by simp; omega
      rw [e1, e2, hlM, e3, e4] at ih
      exact ih
theorem CleanShifted_ok (K : Nat) (a b : List M) (hs : shp a = shp b) (aa : Ascm a) (ab : Ascm b) (la : a.length ≤ 1000000) (lb : b.length ≤ 1000000) (hK : 6 * a.length + 2 * b.length + 8 ≤ K) : CleanShifted K (enc a) (enc b) = some true := by
  obtain ⟨K, rfl⟩ : ∃ m, K = m + 1 := ⟨K - 1, by omega⟩
  rw [CleanShifted_eq, enc_len]
  have := shift_loop K a [] [] b K hs aa ab (by simpa using la) (by simpa using lb) (by omega)
  simpa using this
end Go.Proofs.YtaabfadjemmibaaDoor.E
