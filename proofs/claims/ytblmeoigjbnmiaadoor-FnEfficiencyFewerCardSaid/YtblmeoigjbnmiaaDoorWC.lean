import Derived.Test.YtblmeoigjbnmiaaDoorWB
/- What the statements of the seat begin with, and how edits are counted. -/
set_option linter.unusedVariables false
set_option linter.unusedSimpArgs false
namespace Go.Proofs.YtblmeoigjbnmiaaDoor.E
open Go.Ev
theorem edits_loop (K : Nat) (l : List M) (hl : wt l ≤ 1000000) (ho : Okm l) : ∀ (d i k n e : Nat), i + d = l.length → n + e + wt (l.drop i) ≤ 1000000 → 2 * d + 1 ≤ k →
    CleanEdits_l0 K k (n : Int) (e : Int) (enc l) (l.length : Int) (i : Int) = some (((n + cnt (l.drop i) : Nat) : Int), ((e + ed (l.drop i) : Nat) : Int))
  | 0, i, k, n, e, h, hb, hk => by
    obtain ⟨k, rfl⟩ : ∃ m, k = m + 1 := ⟨k - 1, by omega⟩
    have hwl := wt_len l
    rw [CleanEdits_l0_eq]
    simp (disch := omega) only [chk_le, chk_lt, chk_eq, chk_nle, chk_neq, br_lt, br_ge, br_le, br_gt, br_eq, br_ne, br_not, br_true, br_false, br_and, wrap_id, obs, List.length_set, List.length_append, List.length_cons, List.length_nil, List.length_take, List.length_drop]
    rw [List.drop_eq_nil_of_le (by omega)]
    rfl
  | d + 1, i, k, n, e, h, hb, hk => by
    obtain ⟨k, rfl⟩ : ∃ m, k = m + 1 := ⟨k - 1, by omega⟩
    obtain ⟨k, rfl⟩ : ∃ m, k = m + 1 := ⟨k - 1, by omega⟩
    have hwl := wt_len l
    have he := enc_len l
    have hd := List.drop_eq_getElem_cons (l := l) (i := i) (by omega)
    rw [hd] at hb
    simp only [wt] at hb
    have oi : Okl (l[i]'(by omega)).2 := ho _ (List.getElem_mem _)
    rw [CleanEdits_l0_eq]
    simp (disch := omega) only [chk_le, chk_lt, chk_eq, chk_nle, chk_neq, br_lt, br_ge, br_le, br_gt, br_eq, br_ne, br_not, br_true, br_false, br_and, wrap_id, obs, List.length_set, List.length_append, List.length_cons, List.length_nil, List.length_take, List.length_drop]
    rw [CleanEdits_j0_eq]
    simp (disch := omega) only [chk_le, chk_lt, chk_eq, chk_nle, chk_neq, br_lt, br_ge, br_le, br_gt, br_eq, br_ne, br_not, br_true, br_false, br_and, wrap_id, obs, List.length_set, List.length_append, List.length_cons, List.length_nil, List.length_take, List.length_drop]
    rw [show (i : Int) + 1 = ((i + 1 : Nat) : Int) by omega, nth_at TS2 (enc l) i (by omega), getE (by omega), hd]
    simp only [ed, cnt]
    rw [runesI_of oi]
    by_cases hz : (l[i]'(by omega)).1 = 0
    · rw [br_eq hz, if_pos hz, if_pos hz, edits_loop K l hl ho d (i + 1) k n e (by omega) (by omega) (by omega)]
      simp
    · rw [br_ne hz, if_neg hz, if_neg hz, chk_nle (by omega)]
      rw [wrap_id (x := (e : Int) + _) (by omega) (by omega)]
      rw [show (n : Int) + 1 = ((n + 1 : Nat) : Int) by omega, show (e : Int) + ((l[i]'(by omega)).2.length : Int) = ((e + (l[i]'(by omega)).2.length : Nat) : Int) by omega]
      rw [edits_loop K l hl ho d (i + 1) k (n + 1) (e + _) (by omega) (by omega) (by omega)]
      congr 2
      · omega
      · omega
theorem CleanEdits_ok (K : Nat) (l : List M) (hl : wt l ≤ 1000000) (ho : Okm l) (hK : 2 * l.length + 2 ≤ K) : CleanEdits K (enc l) = some ((cnt l : Int), (ed l : Int)) := by
  obtain ⟨K, rfl⟩ : ∃ m, K = m + 1 := ⟨K - 1, by omega⟩
  rw [CleanEdits_eq]
  have := edits_loop K l hl ho l.length 0 K 0 0 (by omega) (by simpa using hl) (by omega)
  rw [enc_len]
  simpa using this
theorem same_loop (K : Nat) (l : List TS2.den) (hl : l.length ≤ 1000000) : ∀ (d i k : Nat), i + d = l.length → 2 * d + 1 ≤ k → CleanSame_l0 K k l l (l.length : Int) (i : Int) = some true
  | 0, i, k, h, hk => by
    obtain ⟨k, rfl⟩ : ∃ m, k = m + 1 := ⟨k - 1, by omega⟩
    rw [CleanSame_l0_eq]
    simp (disch := omega) only [chk_le, chk_lt, chk_eq, chk_nle, chk_neq, br_lt, br_ge, br_le, br_gt, br_eq, br_ne, br_not, br_true, br_false, br_and, wrap_id, obs, List.length_set, List.length_append, List.length_cons, List.length_nil, List.length_take, List.length_drop]
  | d + 1, i, k, h, hk => by
    obtain ⟨k, rfl⟩ : ∃ m, k = m + 1 := ⟨k - 1, by omega⟩
    obtain ⟨k, rfl⟩ : ∃ m, k = m + 1 := ⟨k - 1, by omega⟩
    rw [CleanSame_l0_eq]
    simp (disch := omega) only [chk_le, chk_lt, chk_eq, chk_nle, chk_neq, br_lt, br_ge, br_le, br_gt, br_eq, br_ne, br_not, br_true, br_false, br_and, wrap_id, obs, List.length_set, List.length_append, List.length_cons, List.length_nil, List.length_take, List.length_drop]
    rw [CleanSame_j1_eq]
    simp (disch := omega) only [chk_le, chk_lt, chk_eq, chk_nle, chk_neq, br_lt, br_ge, br_le, br_gt, br_eq, br_ne, br_not, br_true, br_false, br_and, wrap_id, obs, List.length_set, List.length_append, List.length_cons, List.length_nil, List.length_take, List.length_drop]
    have e1 : eqS (nth TS2 l (i : Int)).2 (nth TS2 l (i : Int)).2 = true := by rw [eqS_iff]; exact decide_eq_true rfl
    rw [e1, br_true, show (i : Int) + 1 = ((i + 1 : Nat) : Int) by omega]
    exact same_loop K l hl d (i + 1) k (by omega) (by omega)
theorem CleanSame_ok (K : Nat) (l : List TS2.den) (hl : l.length ≤ 1000000) (hK : 2 * l.length + 3 ≤ K) : CleanSame K l l = some true := by
  obtain ⟨K, rfl⟩ : ∃ m, K = m + 1 := ⟨K - 1, by omega⟩
  obtain ⟨K, rfl⟩ : ∃ m, K = m + 1 := ⟨K - 1, by omega⟩
  rw [CleanSame_eq]
  simp (disch := omega) only [chk_le, chk_lt, chk_eq, chk_nle, chk_neq, br_lt, br_ge, br_le, br_gt, br_eq, br_ne, br_not, br_true, br_false, br_and, wrap_id, obs, List.length_set, List.length_append, List.length_cons, List.length_nil, List.length_take, List.length_drop]
  rw [CleanSame_j0_eq]
  exact same_loop (K + 1) l hl l.length 0 K (by omega) (by omega)
/-! ### the edits of each run the other way round -/
theorem cleanASCII_ok (K : Nat) (l : List TS2.den) (hl : l.length ≤ 2147483647) (hK : 3000 ≤ K) : cleanASCII K l = some (decide (l.length ≤ 12) && l.all (goodD 40 true)) := by
  obtain ⟨K, rfl⟩ : ∃ m, K = m + 1 := ⟨K - 1, by omega⟩
  rw [cleanASCII_eq]
  by_cases h : l.length ≤ 12
  · rw [br_le (by omega), cleanOf_ok K l (by omega) (by omega)]
    simp only [obs]
    rw [CleanRight_ok K l 12 40 true (by omega) (by omega) (by omega) (by simp; omega)]
    rw [decide_eq_true h, decide_eq_true (show (l.length : Int) ≤ 12 by omega)]
    rfl
  · rw [br_gt (by omega), decide_eq_false h]
    rfl
theorem few_wt : ∀ (l : List M), (∀ x ∈ l, x.2 ≠ [] ∧ (x.2.length : Int) ≤ 40) → wt l + mu l ≤ 82 * l.length
  | [], _ => Nat.le_refl _
  | m :: l, h => by
    have ih := few_wt l (fun x hx => h x (List.mem_cons_of_mem _ hx))
    have hm := h m (List.mem_cons_self ..)
    simp only [wt, mu, List.length_cons]
    split <;> omega
theorem few_case {l : List TS2.den} (h : (decide (l.length ≤ 12) && l.all (goodD 40 false)) = true) : ∃ e : List M, l = enc e ∧ Okm e ∧ Typed e ∧ (∀ x ∈ e, x.2 ≠ []) ∧ e.length ≤ 12 ∧ wt e + mu e ≤ 1000 := by
  rw [Bool.and_eq_true] at h
  obtain ⟨e, rfl, h1, h2, h3⟩ := good_enc l h.2
  have hl := of_decide_eq_true h.1
  rw [enc_len] at hl
  have := few_wt e h3
  exact ⟨e, rfl, h1, h2, fun x hx => (h3 x hx).1, hl, by omega⟩
theorem ascii_few {l : List TS2.den} (h : (decide (l.length ≤ 12) && l.all (goodD 40 true)) = true) : ∃ e : List M, l = enc e ∧ Okm e ∧ Typed e ∧ (∀ x ∈ e, x.2 ≠ []) ∧ e.length ≤ 12 ∧ wt e + mu e ≤ 1000 := by
  rw [Bool.and_eq_true] at h
  have h2 : l.all (goodD 40 false) = true := by
    rw [List.all_eq_true] at *
    intro d hd
    have := h.2 d hd
    unfold goodD at this ⊢
    simp only [Bool.and_eq_true] at this ⊢
    exact ⟨this.1, rfl⟩
  exact few_case (by rw [Bool.and_eq_true]; exact ⟨h.1, h2⟩)
end Go.Proofs.YtblmeoigjbnmiaaDoor.E
