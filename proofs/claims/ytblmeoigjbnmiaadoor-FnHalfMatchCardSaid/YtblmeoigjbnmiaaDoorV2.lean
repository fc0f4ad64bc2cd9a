import Derived.Test.YtblmeoigjbnmiaaDoorV1
/- What 'splice' answers. -/
set_option linter.unusedVariables false
set_option linter.unusedSimpArgs false
namespace Go.Proofs.YtblmeoigjbnmiaaDoor.E
open Go.Ev
theorem take_set {α : Type} : ∀ (l : List α) (i j : Nat) (a : α), i ≤ j → (l.set j a).take i = l.take i
  | _, 0, _, _, _ => by simp
  | [], _ + 1, _, _, _ => by simp
  | x :: l, i + 1, 0, a, h => by omega
  | x :: l, i + 1, j + 1, a, h => by simp [take_set l i j a (by omega)]
theorem zero_loop (K : Nat) (e : Nat) : ∀ (d i k : Nat) (x : List TS1.den), e + i + d = x.length → x.length ≤ 4611686018427387904 → 2 * d + 1 ≤ k →
    splice_l0 K k x (e : Int) (e : Int) (x.length : Int) ((i + d : Nat) : Int) (i : Int) = some (x.take e)
  | 0, i, k, x, h, hx, hk => by
    obtain ⟨k, rfl⟩ : ∃ m, k = m + 1 := ⟨k - 1, by omega⟩
    rw [splice_l0_eq]
    simp (disch := omega) only [chk_le, chk_lt, chk_eq, chk_nle, chk_neq, br_lt, br_ge, br_le, br_gt, br_eq, br_ne, br_not, br_true, br_false, br_and, wrap_id, obs, List.length_set, List.length_append, List.length_cons, List.length_nil, List.length_take, List.length_drop]
    simp only [Int.toNat_natCast]
  | d + 1, i, k, x, h, hx, hk => by
    obtain ⟨k, rfl⟩ : ∃ m, k = m + 1 := ⟨k - 1, by omega⟩
    obtain ⟨k, rfl⟩ : ∃ m, k = m + 1 := ⟨k - 1, by omega⟩
    rw [splice_l0_eq]
    simp (disch := omega) only [chk_le, chk_lt, chk_eq, chk_nle, chk_neq, br_lt, br_ge, br_le, br_gt, br_eq, br_ne, br_not, br_true, br_false, br_and, wrap_id, obs, List.length_set, List.length_append, List.length_cons, List.length_nil, List.length_take, List.length_drop]
    rw [splice_j2_eq]
    simp (disch := omega) only [chk_le, chk_lt, chk_eq, chk_nle, chk_neq, br_lt, br_ge, br_le, br_gt, br_eq, br_ne, br_not, br_true, br_false, br_and, wrap_id, obs, List.length_set, List.length_append, List.length_cons, List.length_nil, List.length_take, List.length_drop]
    have e1 : ((e : Int) + (i : Int)).toNat = e + i := by omega
    rw [e1]
    have := zero_loop K e d (i + 1) k (x.set (e + i) (0, (⟨#[]⟩ : ByteArray))) (by simp; omega) (by simpa using hx) (by omega)
    rw [List.length_set, take_set _ _ _ _ (by omega)] at this
    rw [show (i : Int) + 1 = ((i + 1 : Nat) : Int) by omega, show i + (d + 1) = i + 1 + d by omega]
    exact this
theorem cpL_1 {α : Type} (A R T E : List α) (h : E.length ≤ R.length + T.length) : cpL (A ++ (R ++ T)) E A.length (R.length + T.length) = A ++ E ++ (R ++ T).drop E.length := by
  unfold cpL
  have e : Nat.min E.length (R.length + T.length) = E.length := Nat.min_eq_left h
  rw [e, List.take_length, List.take_left, ← List.drop_drop, List.drop_left]
theorem splice_ok (K : Nat) (A R T E : List TS1.den) (hE : E.length ≤ R.length) (hx : A.length + R.length + T.length ≤ 1000000000000) (hK : 2 * R.length + 3 ≤ K) :
    splice K (A ++ (R ++ T)) (A.length : Int) (R.length : Int) E = some (A ++ (E ++ T)) := by
  obtain ⟨K, rfl⟩ : ∃ m, K = m + 1 := ⟨K - 1, by omega⟩
  have hl : (A ++ (R ++ T)).length = A.length + (R.length + T.length) := by simp
  have n1 : (((A ++ (R ++ T)).length : Int) - (A.length : Int)).toNat = R.length + T.length := by rw [hl]; omega
  rw [splice_eq]
  rw [n1]
  simp only [Int.toNat_natCast]
  rw [cpL_1 A R T E (by omega)]
  by_cases he : E.length = R.length
  · simp (disch := omega) only [chk_le, chk_lt, chk_eq, chk_nle, chk_neq, br_lt, br_ge, br_le, br_gt, br_eq, br_ne, br_not, br_true, br_false, br_and, wrap_id, obs, List.length_set, List.length_append, List.length_cons, List.length_nil, List.length_take, List.length_drop]
    rw [he, List.drop_left, List.append_assoc]
  · rw [br_ne (by omega)]
    obtain ⟨K, rfl⟩ : ∃ m, K = m + 1 := ⟨K - 1, by omega⟩
    rw [splice_j0_eq, n1]
    simp only [Int.toNat_natCast]
    rw [cpL_1 A R T E (by omega)]
    have hl2 : (A ++ E ++ (R ++ T).drop E.length).length = A.length + (R.length + T.length) := by simp; omega
    rw [hl2, hl]
    have w1 : IntKind.i64.wrap ((A.length : Int) + (R.length : Int)) = ((A.length + R.length : Nat) : Int) := by rw [wrap_id (by omega) (by omega)]; omega
    have w2 : IntKind.i64.wrap ((A.length : Int) + (E.length : Int)) = ((A.length + E.length : Nat) : Int) := by rw [wrap_id (by omega) (by omega)]; omega
    rw [w1, w2]
    simp only [Int.toNat_natCast]
    have d1 : (A ++ E ++ (R ++ T).drop E.length).drop (A.length + R.length) = T := by
      rw [show A.length + R.length = (A ++ E).length + (R.length - E.length) by simp; omega, ← List.drop_drop, List.drop_left, List.drop_drop, show E.length + (R.length - E.length) = R.length by omega, List.drop_left]
    rw [d1]
    have t1 : T.take (A.length + (R.length + T.length) - (A.length + R.length)) = T := List.take_of_length_le (by omega)
    rw [t1]
    have n2 : (((A.length + (R.length + T.length) : Nat) : Int) - ((A.length + E.length : Nat) : Int)).toNat = R.length + T.length - E.length := by omega
    rw [n2]
    have c2 : cpL (A ++ E ++ (R ++ T).drop E.length) T (A.length + E.length) (R.length + T.length - E.length) = (A ++ E ++ T) ++ ((R ++ T).drop E.length).drop T.length := by
      unfold cpL
      have e : Nat.min T.length (R.length + T.length - E.length) = T.length := Nat.min_eq_left (by omega)
      rw [e, List.take_length, show A.length + E.length = (A ++ E).length by simp, List.take_left, ← List.drop_drop, List.drop_left]
    rw [c2]
    have hl3 : ((A ++ E ++ T) ++ ((R ++ T).drop E.length).drop T.length).length = A.length + (R.length + T.length) := by simp; omega
    rw [hl3]
    have w3 : IntKind.i64.wrap (IntKind.i64.wrap (((A.length + (R.length + T.length) : Nat) : Int) - (R.length : Int)) + (E.length : Int)) = ((A.length + E.length + T.length : Nat) : Int) := by
      rw [wrap_id (x := ((A.length + (R.length + T.length) : Nat) : Int) - (R.length : Int)) (by omega) (by omega), wrap_id (by omega) (by omega)]; omega
    rw [w3]
    simp (disch := omega) only [chk_le, chk_lt, chk_eq, chk_nle, chk_neq, br_lt, br_ge, br_le, br_gt, br_eq, br_ne, br_not, br_true, br_false, br_and, wrap_id, obs, List.length_set, List.length_append, List.length_cons, List.length_nil, List.length_take, List.length_drop]
    have := zero_loop (K + 1) (A.length + E.length + T.length) (R.length - E.length) 0 K ((A ++ E ++ T) ++ ((R ++ T).drop E.length).drop T.length) (by rw [hl3]; omega) (by rw [hl3]; omega) (by omega)
    rw [hl3] at this
    rw [show ((A.length + (R.length + T.length) : Nat) : Int) - ((A.length + E.length + T.length : Nat) : Int) = ((0 + (R.length - E.length) : Nat) : Int) by omega]
    refine this.trans ?_
    rw [show A.length + E.length + T.length = (A ++ E ++ T).length by simp; omega, List.take_left, List.append_assoc]
end Go.Proofs.YtblmeoigjbnmiaaDoor.E
