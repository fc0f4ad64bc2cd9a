import Derived.Test.YtfglahmbnnkijaaSB
/- What the statements on edits ask first; edits sorted by the library. -/
set_option linter.unusedVariables false
set_option linter.unusedSimpArgs false
namespace Go.Proofs.Ytfglahmbnnkijaa.E
open Go.Ev Go.Lcs
theorem zzFits8_ok (K : Nat) (L : List Ed) (hK : 2 * L.length + 10 ≤ K) : ∃ b, zzFits8 K L = some b ∧ (b = true → L.length ≤ 2147483647) := by
  obtain ⟨K, rfl⟩ : ∃ m, K = m + 1 := ⟨K - 1, by omega⟩
  rw [zzFits8_eq]
  by_cases h : (2147483647 : Int) < (L.length : Int)
  · rw [br_lt h]
    exact ⟨false, rfl, fun h => by cases h⟩
  · rw [br_ge (by omega)]
    obtain ⟨K, rfl⟩ : ∃ m, K = m + 1 := ⟨K - 1, by omega⟩
    rw [zzFits8_j0_eq]
    have key : ∀ (R P : List Ed) (k : Nat), P ++ R = L → 2 * R.length + 1 ≤ k → ∃ b, zzFits8_l0 (K + 1) k L (L.length : Int) (P.length : Int) = some b := by
      intro R
      induction R with
      | nil =>
        intro P k hP hk
        obtain ⟨k, rfl⟩ : ∃ m, k = m + 1 := ⟨k - 1, by omega⟩
        rw [List.append_nil] at hP
        exact ⟨true, by rw [zzFits8_l0_eq, br_ge (by rw [hP]; omega)]⟩
      | cons e R ih =>
        intro P k hP hk
        simp only [List.length_cons] at hk
        have hll : L.length = P.length + (R.length + 1) := by rw [← hP]; simp
        obtain ⟨k, rfl⟩ : ∃ m, k = m + 1 := ⟨k - 1, by omega⟩
        obtain ⟨k, rfl⟩ : ∃ m, k = m + 1 := ⟨k - 1, by omega⟩
        rw [zzFits8_l0_eq, br_lt (by omega), zzFits8_j1_eq, chk_le (by omega), chk_lt (by omega), zzFits9_eq]
        obtain ⟨b, hb⟩ := ih (P ++ [e]) k (by rw [List.append_assoc]; exact hP) (by omega)
        rw [List.length_append] at hb
        by_cases h9 : (2147483647 : Int) < ((ByteArray.size (nth TS1 L (P.length : Int)).2.2) : Int)
        · rw [br_lt h9]
          exact ⟨false, rfl⟩
        · rw [br_ge (by omega), wrap_id (by omega) (by omega)]
          exact ⟨b, hb⟩
    obtain ⟨b, hb⟩ := key L [] K rfl (by omega)
    exact ⟨b, hb, fun _ => by omega⟩
instance (e : Ed) : Decidable (Small e) := by unfold Small; exact inferInstance
def few (L : List Ed) : Bool := decide (L.length ≤ 12) && L.all fun e => decide (Small e)
theorem few_iff {L : List Ed} (h : few L = true) : L.length ≤ 12 ∧ ∀ e ∈ L, Small e := by
  unfold few at h
  simp only [Bool.and_eq_true, decide_eq_true_eq, List.all_eq_true] at h
  exact h
theorem few_j1 (K k : Nat) (L : List Ed) (i : Nat) (hi : i < L.length) (hk : 2 ≤ k) (hl : L.length ≤ 100) :
    ∃ k', k = k' + 2 ∧ editFew_j1 K k L (L.length : Int) (i : Int) = if Small L[i] then editFew_l0 K k' L (L.length : Int) ((i : Int) + 1) else some false := by
  obtain ⟨k, rfl⟩ : ∃ m, k = m + 2 := ⟨k - 2, by omega⟩
  refine ⟨k, rfl, ?_⟩
  rw [editFew_j1_eq, chk_le (by omega), chk_lt (by omega), nth_at TS1 L i hi]
  have t : ∀ k, editFew_j2 K (k + 1) L (L.length : Int) (i : Int) true = some false := fun k => by rw [editFew_j2_eq, br_true]
  have f : ∀ k, editFew_j2 K (k + 1) L (L.length : Int) (i : Int) false = editFew_l0 K k L (L.length : Int) ((i : Int) + 1) := fun k => by rw [editFew_j2_eq, br_false, wrap_id (by omega) (by omega)]
  generalize hE : L[i] = e
  have key : ∀ (a b : Int) (s : ByteArray), e = (a, b, s) → br (ltI (60 : Int) (s.size : Int)) (editFew_j2 K (k + 1) L (L.length : Int) (i : Int) true) (br (ltI a (-2147483648)) (editFew_j2 K (k + 1) L (L.length : Int) (i : Int) true) (br (ltI (2147483647 : Int) a) (editFew_j2 K (k + 1) L (L.length : Int) (i : Int) true) (br (ltI b (-2147483648)) (editFew_j2 K (k + 1) L (L.length : Int) (i : Int) true) (editFew_j2 K (k + 1) L (L.length : Int) (i : Int) (ltI (2147483647 : Int) b))))) = if Small e then editFew_l0 K k L (L.length : Int) ((i : Int) + 1) else some false := by
    rintro a b s rfl
    rw [t]
    by_cases c1 : (60 : Int) < (s.size : Int)
    · rw [br_lt c1, if_neg (by intro h; unfold Small at h; dsimp only at h; omega)]
    rw [br_ge (by omega)]
    by_cases c2 : a < -2147483648
    · rw [br_lt c2, if_neg (by intro h; unfold Small at h; dsimp only at h; omega)]
    rw [br_ge (by omega)]
    by_cases c3 : (2147483647 : Int) < a
    · rw [br_lt c3, if_neg (by intro h; unfold Small at h; dsimp only at h; omega)]
    rw [br_ge (by omega)]
    by_cases c4 : b < -2147483648
    · rw [br_lt c4, if_neg (by intro h; unfold Small at h; dsimp only at h; omega)]
    rw [br_ge (by omega), ltI_eq]
    by_cases c5 : (2147483647 : Int) < b
    · rw [decide_eq_true c5, t, if_neg (by intro h; unfold Small at h; dsimp only at h; omega)]
    · rw [decide_eq_false c5, f, if_pos (by unfold Small; dsimp only; omega)]
  obtain ⟨a, b, s⟩ := e
  exact key a b s rfl
theorem editFew_ok (K : Nat) (L : List Ed) (hK : 40 ≤ K) : editFew K L = some (few L) := by
  obtain ⟨K, rfl⟩ : ∃ m, K = m + 1 := ⟨K - 1, by omega⟩
  rw [editFew_eq]
  unfold few
  by_cases h : (12 : Int) < (L.length : Int)
  · rw [br_lt h, decide_eq_false (by omega), Bool.false_and]
  · rw [br_ge (by omega), decide_eq_true (by omega), Bool.true_and]
    obtain ⟨K, rfl⟩ : ∃ m, K = m + 1 := ⟨K - 1, by omega⟩
    rw [editFew_j0_eq]
    have key : ∀ (R P : List Ed) (k : Nat), P ++ R = L → 3 * R.length + 1 ≤ k → editFew_l0 (K + 1) k L (L.length : Int) (P.length : Int) = some (R.all fun e => decide (Small e)) := by
      intro R
      induction R with
      | nil =>
        intro P k hP hk
        obtain ⟨k, rfl⟩ : ∃ m, k = m + 1 := ⟨k - 1, by omega⟩
        rw [List.append_nil] at hP
        rw [editFew_l0_eq, br_ge (by rw [hP]; omega)]
        rfl
      | cons e R ih =>
        intro P k hP hk
        simp only [List.length_cons] at hk
        have hll : L.length = P.length + (R.length + 1) := by rw [← hP]; simp
        obtain ⟨k, rfl⟩ : ∃ m, k = m + 1 := ⟨k - 1, by omega⟩
        have hL : L[P.length]'(by omega) = e := by
          have : L[P.length]? = some e := by rw [← hP]; simp
          exact (List.getElem?_eq_some_iff.1 this).2
        obtain ⟨k', rfl, h1⟩ := few_j1 (K + 1) k L P.length (by omega) (by omega) (by omega)
        rw [editFew_l0_eq, br_lt (by omega), h1, hL, List.all_cons]
        have := ih (P ++ [e]) k' (by rw [List.append_assoc]; exact hP) (by omega)
        rw [List.length_append] at this
        by_cases hs : Small e
        · rw [if_pos hs, decide_eq_true hs, Bool.true_and]
          exact this
        · rw [if_neg hs, decide_eq_false hs, Bool.false_and]
    exact key L [] K rfl (by omega)
theorem editOwn_ok (K : Nat) (L : List Ed) (hl : L.length ≤ 1000000) (hK : 1 ≤ K) : editOwn K L = some L := by
  obtain ⟨K, rfl⟩ : ∃ m, K = m + 1 := ⟨K - 1, by omega⟩
  rw [editOwn_eq, chk_lt (by omega)]
theorem sortNil (K : Nat) (h : Hp) (hK : 10 ≤ K) : udiff_SortEdits K h .nil = some h := by
  obtain ⟨K, rfl⟩ : ∃ m, K = m + 6 := ⟨K - 6, by omega⟩
  rw [udiff_SortEdits_eq, Stable_eq, itag_sl, br_true, ifs_sl, obs, udiff_editsSort_Len_eq, obs]
  show Option.bind (Option.bind (stable (K + 4) h (If.sl 82 .nil) ((0 : Nat) : Int)) _) _ = _
  rw [stable_eq, stable_l0_eq, br_gt (by omega), stable_j1_eq, insertionSort_eq, wrap_id (by omega) (by omega), insertionSort_l0_eq, br_ge (by omega), obs, stable_l1_eq, br_ge (by omega), obs, obs]
/-- Sorted edits, whatever they lie in. -/
theorem sortE (K : Nat) (h0 h : Hp) (r : Rf) (L : List Ed) (hb : Blt h0 h 74 TS1 r L) (hs : ∀ x ∈ L, Small x) (hl : L.length ≤ 19) (hK : 50000 ≤ K) : ∃ h', udiff_SortEdits K h r = some h' ∧ Blt h0 h' 74 TS1 r (isV eLt L).reverse := by
  obtain ⟨hk, hf, hL⟩ := hb
  rcases hL with ⟨rfl, rfl⟩ | ⟨hne, n, hn0, hn, rfl, ho⟩
  · exact ⟨h, sortNil K h (by omega), hk, hf, .inl ⟨rfl, rfl⟩⟩
  · have h1 : 1 ≤ L.length := by cases L with | nil => exact absurd rfl hne | cons => simp
    obtain ⟨h', e1, e2, e3⟩ := sortEdits_ok K n L h ho hs h1 hl hK
    refine ⟨h', e1, e3.keep hk hn0, e3.free hf hn, .inr ⟨?_, n, hn0, by rw [e3.1]; exact hn, ?_, e2⟩⟩
    · intro hc
      have := congrArg List.length hc
      rw [List.length_reverse, isV_length] at this
      simp at this
      exact hne this
    · rw [List.length_reverse, isV_length]
theorem implSort_ok (K : Nat) (L : List Ed) (hs : ∀ x ∈ L, Small x) (hl : L.length ≤ 12) (hK : 60000 ≤ K) : impl_SortEdits K L = some (isV eLt L).reverse := by
  obtain ⟨K, rfl⟩ : ∃ m, K = m + 1 := ⟨K - 1, by omega⟩
  obtain ⟨h1, r, e1, b1⟩ := edits_ok K Hp.empty FreeH.empty L (by omega) (by omega)
  obtain ⟨h2, e2, b2⟩ := sortE K _ h1 r L b1 hs (by omega) (by omega)
  rw [impl_SortEdits_eq, e1, obs, e2, obs, backEdits_ok K h2 r _ b2.sl (by rw [List.length_reverse, isV_length]; omega) (by rw [List.length_reverse, isV_length]; omega), obs]
end Go.Proofs.Ytfglahmbnnkijaa.E
