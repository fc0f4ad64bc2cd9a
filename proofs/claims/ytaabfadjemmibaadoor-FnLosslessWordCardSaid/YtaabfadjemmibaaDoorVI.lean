import Derived.Test.YtaabfadjemmibaaDoorVH
/- The overlap of two texts. -/
set_option linter.unusedVariables false
set_option linter.unusedSimpArgs false
namespace Go.Proofs.YtaabfadjemmibaaDoor.E
open Go.Ev
theorem idx_loop (K : Nat) {s p : List Int} (hs : Asc s) (hp : Asc p) (ls : s.length ≤ 100000) (lp : p.length ≤ 100000) : ∀ (d i k : Nat), i + d = s.length + 1 → 2 * d + 1 ≤ k →
    ∃ r : Int, zzIndex_l0 K k (strOfRunes s) (strOfRunes p) (i : Int) = some r ∧ (r = -1 ∨ ∃ j : Nat, r = (j : Int) ∧ j + p.length ≤ s.length ∧ (s.drop j).take p.length = p)
  | 0, i, k, h, hk => by
    obtain ⟨k, rfl⟩ : ∃ m, k = m + 1 := ⟨k - 1, by omega⟩
    have w : IntKind.i64.wrap ((i : Int) + (p.length : Int)) = ((i + p.length : Nat) : Int) := by rw [wrap_id (by omega) (by omega)]; omega
    rw [zzIndex_l0_eq, size_asc hs, size_asc hp, w, br_gt (by omega)]
    exact ⟨_, rfl, .inl rfl⟩
  | d + 1, i, k, h, hk => by
    obtain ⟨k, rfl⟩ : ∃ m, k = m + 2 := ⟨k - 2, by omega⟩
    have w : IntKind.i64.wrap ((i : Int) + (p.length : Int)) = ((i + p.length : Nat) : Int) := by rw [wrap_id (by omega) (by omega)]; omega
    rw [zzIndex_l0_eq, size_asc hs, size_asc hp, w]
    by_cases hle : i + p.length ≤ s.length
    · rw [br_le (by omega), zzIndex_j0_eq, size_asc hs, size_asc hp, w, chk_le (by omega), chk_le (by omega), chk_le (by omega), ext_asc hs]
      simp only [Int.toNat_natCast]
      rw [Nat.add_sub_cancel_left, eqS_asc ((hs.drop i).take _) hp]
      by_cases he : (s.drop i).take p.length = p
      · rw [decide_eq_true he, br_true]
        exact ⟨_, rfl, .inr ⟨i, rfl, hle, he⟩⟩
      · rw [decide_eq_false he, br_false, wrap_id (by omega) (by omega)]
        exact idx_loop K hs hp ls lp d (i + 1) k (by omega) (by omega)
    · rw [br_gt (by omega)]
      exact ⟨_, rfl, .inl rfl⟩
theorem index_ok (K : Nat) {s p : List Int} (hs : Asc s) (hp : Asc p) (ls : s.length ≤ 100000) (lp : p.length ≤ 100000) (hK : 2 * s.length + 4 ≤ K) :
    ∃ r : Int, zzIndex K (strOfRunes s) (strOfRunes p) = some r ∧ (r = -1 ∨ ∃ j : Nat, r = (j : Int) ∧ j + p.length ≤ s.length ∧ (s.drop j).take p.length = p) := by
  obtain ⟨K, rfl⟩ : ∃ m, K = m + 1 := ⟨K - 1, by omega⟩
  rw [zzIndex_eq]
  exact idx_loop K hs hp ls lp (s.length + 1) 0 K (by omega) (by omega)
theorem over_loop (K : Nat) {a b : List Int} (ha : Asc a) (hb : Asc b) (hab : a.length = b.length) (hne : a ≠ b) (la : a.length ≤ 100000) (hK : 2 * a.length + 4 ≤ K) : ∀ (d m o k : Nat), m + d = a.length → 1 ≤ m → o ≤ a.length → a.drop (a.length - o) = b.take o → 3 * d + 4 ≤ k →
    ∃ o' : Nat, o' ≤ a.length ∧ a.drop (a.length - o') = b.take o' ∧ DiffCommonOverlap_l0 K k (strOfRunes a) (strOfRunes b) (a.length : Int) (o : Int) (m : Int) = some (o' : Int)
  | d, m, o, k, h, hm, ho, hoo, hk => by
    obtain ⟨k, rfl⟩ : ∃ z, k = z + 3 := ⟨k - 3, by omega⟩
    have w1 : IntKind.i64.wrap ((a.length : Int) - (m : Int)) = ((a.length - m : Nat) : Int) := by rw [wrap_id (by omega) (by omega)]; omega
    rw [DiffCommonOverlap_l0_eq, size_asc ha, w1, chk_le (by omega), chk_le (by omega), chk_le (by omega), ext_asc ha]
    simp only [Int.toNat_natCast]
    have e1 : (a.drop (a.length - m)).take (a.length - (a.length - m)) = a.drop (a.length - m) := List.take_of_length_le (by rw [List.length_drop]; exact Nat.le_refl _)
    have lm : (a.drop (a.length - m)).length = m := by rw [List.length_drop]; omega
    rw [e1]
    obtain ⟨r, hr, hc⟩ := index_ok K hb (ha.drop (a.length - m)) (by omega) (by omega) (by omega)
    rw [hr]
    simp only [Option.bind_some]
    rcases hc with rfl | ⟨j, rfl, h1, h2⟩
    · rw [br_eq rfl]
      exact ⟨o, ho, hoo, rfl⟩
    · rw [lm] at h1 h2
      have w2 : IntKind.i64.wrap ((m : Int) + (j : Int)) = ((m + j : Nat) : Int) := by rw [wrap_id (by omega) (by omega)]; omega
      have w3 : IntKind.i64.wrap ((a.length : Int) - ((m + j : Nat) : Int)) = ((a.length - (m + j) : Nat) : Int) := by rw [wrap_id (by omega) (by omega)]; omega
      have w4 : IntKind.i64.wrap (((m + j : Nat) : Int) + 1) = ((m + j + 1 : Nat) : Int) := by rw [wrap_id (by omega) (by omega)]; omega
      have full : ∀ q, q = a.length → a.drop (a.length - q) = b.take q → False := fun q hq hd => by
        subst hq
        rw [Nat.sub_self, List.drop_zero, hab, List.take_length] at hd
        exact hne hd
      rw [br_ne (by omega), DiffCommonOverlap_j4_eq, w2, w3]
      have yes : a.drop (a.length - (m + j)) = b.take (m + j) → ∃ o' : Nat, o' ≤ a.length ∧ a.drop (a.length - o') = b.take o' ∧ DiffCommonOverlap_j5 K (k + 1) (strOfRunes a) (strOfRunes b) (a.length : Int) (o : Int) ((m + j : Nat) : Int) true = some (o' : Int) := by
        intro hd
        have hlt : m + j < a.length := by
          rcases Nat.lt_or_eq_of_le (show m + j ≤ a.length by omega) with h3 | h3
          · exact h3
          · exact (full _ h3 hd).elim
        rw [DiffCommonOverlap_j5_eq, br_true, w4]
        exact over_loop K ha hb hab hne la hK (d - j - 1) (m + j + 1) (m + j) k (by omega) (by omega) (by omega) hd (by omega)
      by_cases hj : j = 0
      · subst hj
        rw [br_eq (show ((0 : Nat) : Int) = 0 from rfl)]
        exact yes (by rw [Nat.add_zero, ← h2, List.drop_zero])
      · rw [br_ne (by omega), size_asc ha, size_asc hb, chk_le (by omega), chk_le (by omega), chk_le (by omega), chk_le (by omega), chk_le (by omega), chk_le (by omega), ext_asc ha, ext_asc hb]
        simp only [Int.toNat_natCast, show Int.toNat 0 = 0 from rfl, List.drop_zero, Nat.sub_zero]
        have e2 : (a.drop (a.length - (m + j))).take (a.length - (a.length - (m + j))) = a.drop (a.length - (m + j)) := List.take_of_length_le (by rw [List.length_drop]; exact Nat.le_refl _)
        rw [e2, eqS_asc (ha.drop _) (hb.take _)]
        by_cases hd : a.drop (a.length - (m + j)) = b.take (m + j)
        · rw [decide_eq_true hd]
          exact yes hd
        · rw [decide_eq_false hd, DiffCommonOverlap_j5_eq, br_false]
          exact over_loop K ha hb hab hne la hK (d - j) (m + j) o k (by omega) (by omega) ho hoo (by omega)
termination_by d => d
theorem overlap_ok (K : Nat) (X : TS1.den) {a b : List Int} (ha : Asc a) (hb : Asc b) (la : a.length ≤ 10000) (lb : b.length ≤ 10000) (hK : 100000 ≤ K) :
    ∃ o : Nat, o ≤ a.length ∧ o ≤ b.length ∧ a.drop (a.length - o) = b.take o ∧ DiffCommonOverlap K X (strOfRunes a) (strOfRunes b) = some (o : Int) := by
  obtain ⟨K, rfl⟩ : ∃ m, K = m + 6 := ⟨K - 6, by omega⟩
  have sa := size_asc ha
  have sb := size_asc hb
  -- the search in texts of one length
  have go : ∀ (k : Nat) (c e : List Int) (n m : Nat), Asc c → Asc e → c.length = min n m → e.length = min n m → n ≤ 10000 → m ≤ 10000 → 1 ≤ n → 1 ≤ m → 40000 ≤ k → ∃ o : Nat, o ≤ c.length ∧ c.drop (c.length - o) = e.take o ∧ DiffCommonOverlap_j2 (K + 5) k (strOfRunes c) (strOfRunes e) (n : Int) (m : Int) = some (o : Int) := by
    intro k c e n m hc he lc le hn hm h1 h2 hk
    obtain ⟨k, rfl⟩ : ∃ z, k = z + 2 := ⟨k - 2, by omega⟩
    obtain ⟨f1, f2⟩ := f2i_ok (min n m) (by omega)
    rw [DiffCommonOverlap_j2_eq, min_ok _ n m (by omega) (by omega) (by omega)]
    simp only [Option.bind_some]
    rw [f1, f2, eqS_asc hc he]
    by_cases hce : c = e
    · rw [decide_eq_true hce, br_true]
      refine ⟨min n m, by omega, ?_, rfl⟩
      rw [lc, Nat.sub_self, List.drop_zero, List.take_of_length_le (by omega)]
      exact hce
    · rw [decide_eq_false hce, br_false, DiffCommonOverlap_j3_eq, ← lc]
      obtain ⟨o, o1, o2, o3⟩ := over_loop (K + 5) hc he (by omega) hce (by omega) (by omega) (c.length - 1) 1 0 k (by omega) (by omega) (by omega) (by simp) (by omega)
      exact ⟨o, o1, o2, o3⟩
  rw [DiffCommonOverlap_eq, sa, sb]
  by_cases e1 : a.length = 0
  · rw [br_eq (by omega), DiffCommonOverlap_j0_eq, br_true]
    exact ⟨0, by omega, by omega, by simp, rfl⟩
  · rw [br_ne (by omega)]
    by_cases e2 : b.length = 0
    · rw [eqI_t (by omega), DiffCommonOverlap_j0_eq, br_true]
      exact ⟨0, by omega, by omega, by simp, rfl⟩
    · rw [eqI_f (by omega), DiffCommonOverlap_j0_eq, br_false, DiffCommonOverlap_j1_eq, sa, sb]
      by_cases c1 : b.length < a.length
      · have w : IntKind.i64.wrap ((a.length : Int) - (b.length : Int)) = ((a.length - b.length : Nat) : Int) := by rw [wrap_id (by omega) (by omega)]; omega
        rw [br_lt (by omega), w, chk_le (by omega), chk_le (by omega), chk_le (by omega), ext_asc ha]
        simp only [Int.toNat_natCast]
        have e3 : (a.drop (a.length - b.length)).take (a.length - (a.length - b.length)) = a.drop (a.length - b.length) := List.take_of_length_le (by rw [List.length_drop]; exact Nat.le_refl _)
        have l3 : (a.drop (a.length - b.length)).length = b.length := by rw [List.length_drop]; omega
        rw [e3]
        obtain ⟨o, o1, o2, o3⟩ := go (K + 3) _ _ a.length b.length (ha.drop (a.length - b.length)) hb (by omega) (by omega) la lb (by omega) (by omega) (by omega)
        rw [l3] at o1 o2
        refine ⟨o, by omega, o1, ?_, o3⟩
        rw [← o2, List.drop_drop]
        congr 1
        omega
      · rw [br_ge (by omega)]
        by_cases c2 : a.length < b.length
        · rw [br_lt (by omega), chk_le (by omega), chk_le (by omega), chk_le (by omega), ext_asc hb]
          simp only [Int.toNat_natCast, show Int.toNat 0 = 0 from rfl, List.drop_zero, Nat.sub_zero]
          have l3 : (b.take a.length).length = a.length := by rw [List.length_take]; omega
          obtain ⟨o, o1, o2, o3⟩ := go (K + 3) _ _ a.length b.length ha (hb.take a.length) (by omega) (by omega) la lb (by omega) (by omega) (by omega)
          refine ⟨o, o1, by omega, ?_, o3⟩
          rw [o2, List.take_take, Nat.min_eq_left o1]
        · rw [br_ge (by omega)]
          obtain ⟨o, o1, o2, o3⟩ := go (K + 3) _ _ a.length b.length ha hb (by omega) (by omega) la lb (by omega) (by omega) (by omega)
          exact ⟨o, o1, by omega, o2, o3⟩
end Go.Proofs.YtaabfadjemmibaaDoor.E
