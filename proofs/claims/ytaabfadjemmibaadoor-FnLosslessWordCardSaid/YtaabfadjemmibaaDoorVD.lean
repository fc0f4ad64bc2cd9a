import Derived.Test.YtaabfadjemmibaaDoorVC
/- The small functions of FnMergeLess, FnMergeAgain, FnMergeOrder. -/
set_option linter.unusedVariables false
set_option linter.unusedSimpArgs false
namespace Go.Proofs.YtaabfadjemmibaaDoor.E
open Go.Ev
theorem edits_loop (K : Nat) (l : List M) (hl : wt l ≤ 1000000) (ho : Okm l) : ∀ (d i k n e : Nat), i + d = l.length → n + e + wt (l.drop i) ≤ 1000000 → 2 * d + 1 ≤ k →
    CleanEdits_l0 K k (n : Int) (e : Int) (enc l) (l.length : Int) (i : Int) = some (((n + cnt (l.drop i) : Nat) : Int), ((e + ed (l.drop i) : Nat) : Int))
  | 0, i, k, n, e, h, hb, hk => by
    obtain ⟨k, rfl⟩ : ∃ m, k = m + 1 := ⟨k - 1, by omega⟩
    have hwl := wt_len l
    rw [CleanEdits_l0_eq]
    simp (disch := omega) only [chk_le, chk_lt, chk_eq, chk_nle, chk_neq, br_lt, br_ge, br_le, br_gt, br_eq, br_ne, br_not, br_true, br_false, br_and, wrap_id, Option.bind_some, List.length_set, List.length_append, List.length_cons, List.length_nil, List.length_take, List.length_drop]
    rw [List.drop_eq_nil_of_le (by omega)]
    rfl
  | d + 1, i, k, n, e, h, hb, hk => by
    obtain ⟨k, rfl⟩ : ∃ m, k = m + 1 := ⟨k - 1, by omega⟩
    obtain ⟨k, rfl⟩ : ∃ m, k = m + 1 := ⟨k - 1, by omega⟩
    have hwl := wt_len l
    have he := enc_len l
    have hd := List.drop_eq_getElem_cons (l := l) (i := i) (by omega)
    rw [hd] at hb
    simp only [wt] at hb
    have oi : Okl (l[i]'(by omega)).2 := ho _ (List.getElem_mem _)
    rw [CleanEdits_l0_eq]
    simp (disch := omega) only [chk_le, chk_lt, chk_eq, chk_nle, chk_neq, br_lt, br_ge, br_le, br_gt, br_eq, br_ne, br_not, br_true, br_false, br_and, wrap_id, Option.bind_some, List.length_set, List.length_append, List.length_cons, List.length_nil, List.length_take, List.length_drop]
    rw [CleanEdits_j0_eq]
    simp (disch := omega) only [chk_le, chk_lt, chk_eq, chk_nle, chk_neq, br_lt, br_ge, br_le, br_gt, br_eq, br_ne, br_not, br_true, br_false, br_and, wrap_id, Option.bind_some, List.length_set, List.length_append, List.length_cons, List.length_nil, List.length_take, List.length_drop]
    rw [show (i : Int) + 1 = ((i + 1 : Nat) : Int) by omega, nth_at TS0 (enc l) i (by omega), getE (by omega), hd]
    simp only [ed, cnt]
    rw [runesI_of oi]
    by_cases hz : (l[i]'(by omega)).1 = 0
    · rw [br_eq hz, if_pos hz, if_pos hz, edits_loop K l hl ho d (i + 1) k n e (by omega) (by omega) (by omega)]
      simp
    · rw [br_ne hz, if_neg hz, if_neg hz, chk_nle (by omega)]
      rw [wrap_id (x := (e : Int) + _) (by omega) (by omega)]
      rw [show (n : Int) + 1 = ((n + 1 : Nat) : Int) by omega, show (e : Int) + ((l[i]'(by omega)).2.length : Int) = ((e + (l[i]'(by omega)).2.length : Nat) : Int) by omega]
      rw [edits_loop K l hl ho d (i + 1) k (n + 1) (e + _) (by omega) (by omega) (by omega)]
      congr 2
      · omega
      · omega
theorem CleanEdits_ok (K : Nat) (l : List M) (hl : wt l ≤ 1000000) (ho : Okm l) (hK : 2 * l.length + 2 ≤ K) : CleanEdits K (enc l) = some ((cnt l : Int), (ed l : Int)) := by
  obtain ⟨K, rfl⟩ : ∃ m, K = m + 1 := ⟨K - 1, by omega⟩
  rw [CleanEdits_eq]
  have := edits_loop K l hl ho l.length 0 K 0 0 (by omega) (by simpa using hl) (by omega)
  rw [enc_len]
  simpa using this
theorem same_loop (K : Nat) (l : List TS0.den) (hl : l.length ≤ 1000000) : ∀ (d i k : Nat), i + d = l.length → 2 * d + 1 ≤ k → CleanSame_l0 K k l l (l.length : Int) (i : Int) = some true
  | 0, i, k, h, hk => by
    obtain ⟨k, rfl⟩ : ∃ m, k = m + 1 := ⟨k - 1, by omega⟩
    rw [CleanSame_l0_eq]
    simp (disch := omega) only [chk_le, chk_lt, chk_eq, chk_nle, chk_neq, br_lt, br_ge, br_le, br_gt, br_eq, br_ne, br_not, br_true, br_false, br_and, wrap_id, Option.bind_some, List.length_set, List.length_append, List.length_cons, List.length_nil, List.length_take, List.length_drop]
  | d + 1, i, k, h, hk => by
    obtain ⟨k, rfl⟩ : ∃ m, k = m + 1 := ⟨k - 1, by omega⟩
    obtain ⟨k, rfl⟩ : ∃ m, k = m + 1 := ⟨k - 1, by omega⟩
    rw [CleanSame_l0_eq]
    simp (disch := omega) only [chk_le, chk_lt, chk_eq, chk_nle, chk_neq, br_lt, br_ge, br_le, br_gt, br_eq, br_ne, br_not, br_true, br_false, br_and, wrap_id, Option.bind_some, List.length_set, List.length_append, List.length_cons, List.length_nil, List.length_take, List.length_drop]
    rw [CleanSame_j1_eq]
    simp (disch := omega) only [chk_le, chk_lt, chk_eq, chk_nle, chk_neq, br_lt, br_ge, br_le, br_gt, br_eq, br_ne, br_not, br_true, br_false, br_and, wrap_id, Option.bind_some, List.length_set, List.length_append, List.length_cons, List.length_nil, List.length_take, List.length_drop]
    have e1 : eqS (nth TS0 l (i : Int)).2 (nth TS0 l (i : Int)).2 = true := by rw [eqS_iff]; exact decide_eq_true rfl
    rw [e1, br_true, show (i : Int) + 1 = ((i + 1 : Nat) : Int) by omega]
    exact same_loop K l hl d (i + 1) k (by omega) (by omega)
theorem CleanSame_ok (K : Nat) (l : List TS0.den) (hl : l.length ≤ 1000000) (hK : 2 * l.length + 3 ≤ K) : CleanSame K l l = some true := by
  obtain ⟨K, rfl⟩ : ∃ m, K = m + 1 := ⟨K - 1, by omega⟩
  obtain ⟨K, rfl⟩ : ∃ m, K = m + 1 := ⟨K - 1, by omega⟩
  rw [CleanSame_eq]
  simp (disch := omega) only [chk_le, chk_lt, chk_eq, chk_nle, chk_neq, br_lt, br_ge, br_le, br_gt, br_eq, br_ne, br_not, br_true, br_false, br_and, wrap_id, Option.bind_some, List.length_set, List.length_append, List.length_cons, List.length_nil, List.length_take, List.length_drop]
  rw [CleanSame_j0_eq]
  exact same_loop (K + 1) l hl l.length 0 K (by omega) (by omega)
/-! ### the edits of each run the other way round -/
theorem reo_run : ∀ (R Q T : List M), Edits R → reo Q (R ++ T) = reo (Q ++ R) T
  | [], Q, T, _ => by simp
  | m :: R, Q, T, h => by
    have hm := h m (List.mem_cons_self ..)
    rw [List.cons_append, reo, if_neg (by omega), reo_run R (Q ++ [m]) T (fun x hx => h x (List.mem_cons_of_mem _ hx))]
    simp
theorem split_run : ∀ S : List M, Typed S → ∃ R T, S = R ++ T ∧ Edits R ∧ (T = [] ∨ ∃ m T', T = m :: T' ∧ m.1 = 0)
  | [], _ => ⟨[], [], rfl, Edits.nil, .inl rfl⟩
  | m :: S, h => by
    by_cases hm : m.1 = 0
    · exact ⟨[], m :: S, rfl, Edits.nil, .inr ⟨m, S, rfl, hm⟩⟩
    · obtain ⟨R, T, h1, h2, h3⟩ := split_run S h.tail
      refine ⟨m :: R, T, by rw [h1]; rfl, fun x hx => ?_, h3⟩
      rcases List.mem_cons.1 hx with rfl | hx
      · exact (h x (List.mem_cons_self ..)).resolve_left hm
      · exact h2 x hx
theorem nth_enc0 (A B : List M) (m : M) (p : Int) (hp : p = (A.length : Int)) : nth TS0 (enc (A ++ m :: B)) p = (m.1, strOfRunes m.2) := nth_enc A B m p hp
theorem fz_len (z : Int) : ∀ R : List M, (fz z R).length ≤ R.length
  | [] => Nat.le_refl _
  | m :: R => by
    have := fz_len z R
    unfold fz
    split <;> simp <;> omega
theorem reo_len (R : List M) (hR : Edits R) : (fz 1 R).length + (fz (-1) R).length = R.length := by
  rw [← List.length_append, ← cDI (reo_edits R), ← cDI hR, (c_app _ _).1, (c_app _ _).2, (fz1 R).1, (fz1 R).2.1, (fzm R).1, (fzm R).2.1]
  omega
theorem find_loop (K : Nat) (A R T : List M) (out : List TS0.den) (hl : A.length + R.length + T.length ≤ 1000000) (hR : Edits R) (hT : T = [] ∨ ∃ m T', T = m :: T' ∧ m.1 = 0) : ∀ (d j k : Nat), j + d = R.length → 2 * d + 1 ≤ k →
    ∃ k', k ≤ k' + (2 * d + 1) ∧ FnMergeOrder_l1 K k (enc (A ++ (R ++ T))) out (A.length : Int) ((A.length + j : Nat) : Int) = FnMergeOrder_j5 K k' (enc (A ++ (R ++ T))) out (A.length : Int) ((A.length + R.length : Nat) : Int)
  | 0, j, k, h, hk => by
    obtain ⟨k, rfl⟩ : ∃ m, k = m + 1 := ⟨k - 1, by omega⟩
    refine ⟨k, by omega, ?_⟩
    have hj : j = R.length := by omega
    subst hj
    have he : (enc (A ++ (R ++ T))).length = A.length + R.length + T.length := by rw [enc_len]; simp; omega
    rw [FnMergeOrder_l1_eq, he]
    rcases hT with rfl | ⟨m, T', rfl, hm⟩
    · rw [br_ge (by simp)]
    · simp only [List.length_cons] at *
      rw [br_lt (by omega), chk_le (by omega), chk_lt (by omega), show A ++ (R ++ m :: T') = (A ++ R) ++ m :: T' by simp, nth_enc0 (A ++ R) T' m _ (by simp), br_not, br_eq hm]
  | d + 1, j, k, h, hk => by
    obtain ⟨k, rfl⟩ : ∃ m, k = m + 1 := ⟨k - 1, by omega⟩
    obtain ⟨k, rfl⟩ : ∃ m, k = m + 1 := ⟨k - 1, by omega⟩
    have he : (enc (A ++ (R ++ T))).length = A.length + R.length + T.length := by rw [enc_len]; simp; omega
    obtain ⟨k', hk', e⟩ := find_loop K A R T out hl hR hT d (j + 1) k (by omega) (by omega)
    refine ⟨k', by omega, ?_⟩
    have hm := hR (R[j]'(by omega)) (List.getElem_mem _)
    have hs : nth TS0 (enc (A ++ (R ++ T))) ((A.length + j : Nat) : Int) = ((R[j]'(by omega)).1, strOfRunes (R[j]'(by omega)).2) := by
      rw [nth_at TS0 _ (A.length + j) (by omega), getE (by simp; omega)]
      have : (A ++ (R ++ T))[A.length + j]'(by simp; omega) = R[j]'(by omega) := by
        rw [List.getElem_append_right (by omega), List.getElem_append_left (by omega)]
        congr 1; omega
      rw [this]
    rw [FnMergeOrder_l1_eq, he, br_lt (by omega), chk_le (by omega), chk_lt (by omega), hs]
    simp only []
    rw [br_not, br_ne (by omega), FnMergeOrder_j4_eq, wrap_id (by omega) (by omega), show ((A.length + j : Nat) : Int) + 1 = ((A.length + (j + 1) : Nat) : Int) by omega]
    exact e
theorem coll_loop (K : Nat) (A R T : List M) (z : Int) (c : Nat) (hc : c ≤ 5) (hl : A.length + R.length + T.length ≤ 1000000) : ∀ (d j k : Nat) (out : List M), j + d = R.length → out.length + d ≤ 1000000 → 2 * d + 1 ≤ k →
    ∃ k', k ≤ k' + (2 * d + 1) ∧ FnMergeOrder_l3 K k (enc (A ++ (R ++ T))) (enc out) (A.length : Int) ((A.length + R.length : Nat) : Int) z [1, -1] 2 (c : Int) (A.length : Int) ((A.length + R.length : Nat) : Int) (R.length : Int) (j : Int) =
      FnMergeOrder_l2 K k' (enc (A ++ (R ++ T))) (enc (out ++ fz z (R.drop j))) (A.length : Int) ((A.length + R.length : Nat) : Int) [1, -1] 2 ((c + 1 : Nat) : Int)
  | 0, j, k, out, h, ho, hk => by
    obtain ⟨k, rfl⟩ : ∃ m, k = m + 1 := ⟨k - 1, by omega⟩
    refine ⟨k, by omega, ?_⟩
    rw [FnMergeOrder_l3_eq]
    simp (disch := omega) only [chk_le, chk_lt, chk_eq, chk_nle, chk_neq, br_lt, br_ge, br_le, br_gt, br_eq, br_ne, br_not, br_true, br_false, br_and, wrap_id, Option.bind_some, List.length_set, List.length_append, List.length_cons, List.length_nil, List.length_take, List.length_drop]
    rw [List.drop_eq_nil_of_le (by omega)]
    simp [fz]
  | d + 1, j, k, out, h, ho, hk => by
    obtain ⟨k, rfl⟩ : ∃ m, k = m + 1 := ⟨k - 1, by omega⟩
    obtain ⟨k, rfl⟩ : ∃ m, k = m + 1 := ⟨k - 1, by omega⟩
    have he : (enc (A ++ (R ++ T))).length = A.length + R.length + T.length := by rw [enc_len]; simp; omega
    have hs : nth TS0 (enc (A ++ (R ++ T))) ((A.length : Int) + (j : Int)) = ((R[j]'(by omega)).1, strOfRunes (R[j]'(by omega)).2) := by
      rw [show (A.length : Int) + (j : Int) = ((A.length + j : Nat) : Int) by omega, nth_at TS0 _ (A.length + j) (by omega), getE (by simp; omega)]
      have : (A ++ (R ++ T))[A.length + j]'(by simp; omega) = R[j]'(by omega) := by
        rw [List.getElem_append_right (by omega), List.getElem_append_left (by omega)]
        congr 1; omega
      rw [this]
    have ho' := enc_len out
    rw [FnMergeOrder_l3_eq, br_lt (by omega), FnMergeOrder_j8_eq, hs, chk_le (by omega), chk_lt (by omega), wrap_id (x := (j : Int) + 1) (by omega) (by omega), show (j : Int) + 1 = ((j + 1 : Nat) : Int) by omega, List.drop_eq_getElem_cons (i := j) (by omega), fz]
    simp only []
    by_cases hz : (R[j]'(by omega)).1 = z
    · rw [br_eq hz, if_pos hz, chk_lt (by simp; omega)]
      obtain ⟨k', hk', e⟩ := coll_loop K A R T z c hc hl d (j + 1) k (out ++ [R[j]'(by omega)]) (by omega) (by simp; omega) (by omega)
      refine ⟨k', by omega, ?_⟩
      rw [show enc (out ++ [R[j]'(by omega)]) = enc out ++ [((R[j]'(by omega)).1, strOfRunes (R[j]'(by omega)).2)] by rw [enc_app]; rfl] at e
      rw [show out ++ R[j]'(by omega) :: fz z (R.drop (j + 1)) = out ++ [R[j]'(by omega)] ++ fz z (R.drop (j + 1)) by simp]
      exact e
    · rw [br_ne hz, if_neg hz]
      obtain ⟨k', hk', e⟩ := coll_loop K A R T z c hc hl d (j + 1) k out (by omega) (by omega) (by omega)
      exact ⟨k', by omega, e⟩
theorem run_step (K : Nat) (A R T out : List M) (hl : A.length + R.length + T.length ≤ 100000) (hR : Edits R) (hT : T = [] ∨ ∃ m T', T = m :: T' ∧ m.1 = 0) (ho : out.length ≤ 100000) (k : Nat) (hk : 6 * R.length + 20 ≤ k) (hne : R ++ T ≠ []) :
    ∃ k', k ≤ k' + (6 * R.length + 20) ∧ FnMergeOrder_l0 K k (enc (A ++ (R ++ T))) (enc out) (A.length : Int) = FnMergeOrder_j7 K k' (enc (A ++ (R ++ T))) (enc (out ++ (fz 1 R ++ fz (-1) R))) ((A.length + R.length : Nat) : Int) := by
  have he : (enc (A ++ (R ++ T))).length = A.length + R.length + T.length := by rw [enc_len]; simp; omega
  have hpos : 0 < R.length + T.length := by have := List.length_pos_iff.2 hne; simpa using this
  obtain ⟨k, rfl⟩ : ∃ m, k = m + 2 := ⟨k - 2, by omega⟩
  rw [FnMergeOrder_l0_eq, he, br_lt (by omega), FnMergeOrder_j2_eq]
  obtain ⟨k1, hk1, e1⟩ := find_loop K A R T (enc out) (by omega) hR hT R.length 0 k (by omega) (by omega)
  rw [Nat.add_zero] at e1
  rw [e1]
  obtain ⟨k1, rfl⟩ : ∃ m, k1 = m + 3 := ⟨k1 - 3, by omega⟩
  have c1 : ∀ (x3 : List TS0.den) (k : Nat) (z : Int) (c : Nat), c < 2 → nth (.int .i64) [1, -1] (c : Int) = z → FnMergeOrder_l2 K (k + 2) (enc (A ++ (R ++ T))) x3 (A.length : Int) ((A.length + R.length : Nat) : Int) [1, -1] 2 (c : Int) =
      FnMergeOrder_l3 K k (enc (A ++ (R ++ T))) x3 (A.length : Int) ((A.length + R.length : Nat) : Int) z [1, -1] 2 (c : Int) (A.length : Int) ((A.length + R.length : Nat) : Int) (R.length : Int) 0 := by
    intro x3 k z c hc hz
    rw [FnMergeOrder_l2_eq, br_lt (by omega), FnMergeOrder_j6_eq, hz, he]
    rw [chk_le (by omega), chk_lt (by simp; omega), chk_le (by omega), chk_le (by omega), chk_le (by omega)]
    rw [show ((A.length + R.length : Nat) : Int) - (A.length : Int) = (R.length : Int) by omega]
  rw [FnMergeOrder_j5_eq]
  have a1 := c1 (enc out) k1 1 0 (by omega) rfl
  obtain ⟨k2, hk2, e2⟩ := coll_loop K A R T 1 0 (by omega) (by omega) R.length 0 k1 out (by omega) (by omega) (by omega)
  obtain ⟨k2, rfl⟩ : ∃ m, k2 = m + 2 := ⟨k2 - 2, by omega⟩
  have a2 := c1 (enc (out ++ fz 1 (R.drop 0))) k2 (-1) 1 (by omega) rfl
  have hfl : (fz 1 R).length ≤ R.length := fz_len 1 R
  obtain ⟨k3, hk3, e3⟩ := coll_loop K A R T (-1) 1 (by omega) (by omega) R.length 0 k2 (out ++ fz 1 (R.drop 0)) (by omega) (by simp; omega) (by omega)
  obtain ⟨k3, rfl⟩ : ∃ m, k3 = m + 1 := ⟨k3 - 1, by omega⟩
  refine ⟨k3, by omega, ?_⟩
  refine a1.trans (e2.trans (a2.trans (e3.trans ?_)))
  rw [FnMergeOrder_l2_eq, br_ge (by omega)]
  simp
theorem order_loop (K : Nat) : ∀ (n : Nat) (S A out : List M) (k : Nat), S.length ≤ n → A.length + S.length ≤ 50000 → out.length ≤ A.length → Typed S → 30 * n + 60 ≤ k →
    ∃ k', k ≤ k' + (30 * n + 60) ∧ FnMergeOrder_l0 K k (enc (A ++ S)) (enc out) (A.length : Int) = FnMergeOrder_j3 K k' (enc (A ++ S)) (enc (out ++ reo [] S))
  | n, S, A, out, k, hn, hl, ho, tS, hk => by
    by_cases hS : S = []
    · subst hS
      obtain ⟨k, rfl⟩ : ∃ m, k = m + 1 := ⟨k - 1, by omega⟩
      refine ⟨k, by omega, ?_⟩
      rw [FnMergeOrder_l0_eq, enc_len, br_ge (by simp)]
      simp [reo, fz]
    · obtain ⟨R, T, rfl, hR, hT⟩ := split_run S tS
      rw [List.length_append] at hn hl
      have hpos : 0 < R.length + T.length := by have := List.length_pos_iff.2 hS; simpa using this
      obtain ⟨n, rfl⟩ : ∃ m, n = m + 1 := ⟨n - 1, by omega⟩
      obtain ⟨k1, hk1, e1⟩ := run_step K A R T out (by omega) hR hT (by omega) k (by omega) hS
      obtain ⟨k1, rfl⟩ : ∃ m, k1 = m + 1 := ⟨k1 - 1, by omega⟩
      have he : (enc (A ++ (R ++ T))).length = A.length + R.length + T.length := by rw [enc_len]; simp; omega
      have f1 := fz_len 1 R
      have f2 := reo_len R hR
      rw [e1, reo_run R [] T hR, List.nil_append, FnMergeOrder_j7_eq, he]
      rcases hT with rfl | ⟨m, T', rfl, hm⟩
      · obtain ⟨k1, rfl⟩ : ∃ m, k1 = m + 1 := ⟨k1 - 1, by omega⟩
        refine ⟨k1, by omega, ?_⟩
        rw [br_ge (by simp), FnMergeOrder_l0_eq, he, wrap_id (by simp; omega) (by simp; omega), br_ge (by simp; omega), reo]
      · simp only [List.length_cons] at *
        have hfe : (enc (out ++ (fz 1 R ++ fz (-1) R))).length ≤ 100000 := by rw [enc_len]; simp; omega
        have hs : nth TS0 (enc (A ++ (R ++ m :: T'))) ((A.length + R.length : Nat) : Int) = (m.1, strOfRunes m.2) := by
          rw [show A ++ (R ++ m :: T') = (A ++ R) ++ m :: T' by simp]
          exact nth_enc0 _ _ _ _ (by simp)
        rw [br_lt (by omega), chk_le (by omega), chk_lt (by omega), hs, chk_lt (by simp; omega), wrap_id (by omega) (by omega), reo, if_pos hm]
        have tT' : Typed T' := (tS.right).tail
        obtain ⟨k2, hk2, e2⟩ := order_loop K (n - R.length) T' (A ++ R ++ [m]) (out ++ (fz 1 R ++ fz (-1) R) ++ [m]) k1 (by omega) (by simp; omega) (by simp; omega) tT' (by omega)
        refine ⟨k2, by omega, ?_⟩
        rw [show A ++ R ++ [m] ++ T' = A ++ (R ++ m :: T') by simp, enc_app (out ++ (fz 1 R ++ fz (-1) R)) [m]] at e2
        rw [show out ++ (fz 1 R ++ fz (-1) R ++ m :: reo [] T') = out ++ (fz 1 R ++ fz (-1) R) ++ [m] ++ reo [] T' by simp, ← e2]
        rw [show ((A.length + R.length : Nat) : Int) + 1 = ((A ++ R ++ [m]).length : Int) by simp; omega]
        rfl
termination_by n => n
end Go.Proofs.YtaabfadjemmibaaDoor.E
