import Derived.Test.YtfefjbifdbfmjaaDoorEvOk
import Derived.Test.YtfefjbifdbfmjaaDoorEvL
import Derived.Test.YtfefjbifdbfmjaaDoorEvQ0
import Derived.Test.YtfefjbifdbfmjaaDoorEvQ1
/- The laws' small loops; texts as bytes. -/
set_option linter.unusedVariables false
set_option linter.unusedSimpArgs false
namespace Go.Proofs.YtfefjbifdbfmjaaDoor.E
open Go.Ev
theorem cleanOf_loop (K : Nat) (l : List TS1.den) (hl : l.length ≤ 1000000) : ∀ (d i k : Nat) (acc : List TS1.den), i + d = l.length → acc.length = i → 2 * d + 1 ≤ k →
    cleanOf_l0 K k acc l (l.length : Int) (i : Int) = some (acc ++ l.drop i)
  | 0, i, k, acc, h, ha, hk => by
    obtain ⟨k, rfl⟩ : ∃ m, k = m + 1 := ⟨k - 1, by omega⟩
    rw [cleanOf_l0_eq]
    simp (disch := omega) only [chk_le, chk_lt, chk_eq, chk_nle, chk_neq, br_lt, br_ge, br_le, br_gt, br_eq, br_ne, br_not, br_true, br_false, br_and, wrap_id, Option.bind_some, List.length_set, List.length_append, List.length_cons, List.length_nil, List.length_take, List.length_drop]
    rw [List.drop_eq_nil_of_le (by omega), List.append_nil]
  | d + 1, i, k, acc, h, ha, hk => by
    obtain ⟨k, rfl⟩ : ∃ m, k = m + 1 := ⟨k - 1, by omega⟩
    obtain ⟨k, rfl⟩ : ∃ m, k = m + 1 := ⟨k - 1, by omega⟩
    rw [cleanOf_l0_eq]
    simp (disch := omega) only [chk_le, chk_lt, chk_eq, chk_nle, chk_neq, br_lt, br_ge, br_le, br_gt, br_eq, br_ne, br_not, br_true, br_false, br_and, wrap_id, Option.bind_some, List.length_set, List.length_append, List.length_cons, List.length_nil, List.length_take, List.length_drop]
    rw [cleanOf_j0_eq]
    simp (disch := omega) only [chk_le, chk_lt, chk_eq, chk_nle, chk_neq, br_lt, br_ge, br_le, br_gt, br_eq, br_ne, br_not, br_true, br_false, br_and, wrap_id, Option.bind_some, List.length_set, List.length_append, List.length_cons, List.length_nil, List.length_take, List.length_drop]
    rw [show (i : Int) + 1 = ((i + 1 : Nat) : Int) by omega, nth_at TS1 l i (by omega), cleanOf_loop K l hl d (i + 1) k _ (by omega) (by simp; omega) (by omega), List.drop_eq_getElem_cons (i := i) (by omega)]
    simp
theorem cleanOf_ok (K : Nat) (l : List TS1.den) (hl : l.length ≤ 1000000) (hK : 2 * l.length + 2 ≤ K) : cleanOf K l = some l := by
  obtain ⟨K, rfl⟩ : ∃ m, K = m + 1 := ⟨K - 1, by omega⟩
  rw [cleanOf_eq]
  have := cleanOf_loop K l hl l.length 0 K [] (by omega) rfl (by omega)
  simpa using this
theorem cleanOwn_ok (K : Nat) (l : List TS1.den) (hl : l.length ≤ 1000000) (hK : 1 ≤ K) : cleanOwn K l = some l := by
  obtain ⟨K, rfl⟩ : ∃ m, K = m + 1 := ⟨K - 1, by omega⟩
  rw [cleanOwn_eq, chk_lt (by omega)]
theorem plain_ok (K : Nat) (hK : 2 ≤ K) : ∃ X, plain K = some X := by
  obtain ⟨K, rfl⟩ : ∃ m, K = m + 1 := ⟨K - 1, by omega⟩
  obtain ⟨K, rfl⟩ : ∃ m, K = m + 1 := ⟨K - 1, by omega⟩
  rw [plain_eq, diffmatchpatch_New_eq]
  exact ⟨_, rfl⟩
def goodD (m : Int) (asc : Bool) (d : Int × ByteArray) : Bool :=
  decide (-1 ≤ d.1) && decide (d.1 ≤ 1) && !decide (d.2 = ⟨#[]⟩) && decide ((d.2.size : Int) ≤ m) && decide (strOfRunes (runesI d.2) = d.2) && (!asc || (List.range d.2.size).all fun i => decide (bt d.2 (i : Int) ≤ 126))
theorem CleanChars_ok (K : Nat) (s : ByteArray) (m : Int) (hm : m ≤ 1000000) (hK : 1 ≤ K) : CleanChars K s m = some (decide ((s.size : Int) ≤ m) && decide (strOfRunes (runesI s) = s)) := by
  obtain ⟨K, rfl⟩ : ∃ m, K = m + 1 := ⟨K - 1, by omega⟩
  rw [CleanChars_eq]
  by_cases h : (s.size : Int) ≤ m
  · have := runesI_le s
    rw [br_le h, chk_nle (by omega), eqS_iff, decide_eq_true h]
    rfl
  · rw [br_gt (by omega), decide_eq_false h]
    rfl
theorem asc_loop (K : Nat) (m : Int) (l : List TS1.den) (len p : Int) (d : Int × ByteArray) (hd : d.2.size ≤ 1000000) : ∀ (e i k : Nat), i + e = d.2.size → 2 * e + 1 ≤ k →
    ((∀ j, i ≤ j → j < d.2.size → bt d.2 (j : Int) ≤ 126) ∧ ∃ k', k ≤ k' + (2 * e + 1) ∧ CleanRight_l1 K k m true 0 [d] (i : Int) l len p = CleanRight_l0 K k' m true l len (IntKind.i64.wrap (p + 1))) ∨
    ((∃ j, i ≤ j ∧ j < d.2.size ∧ ¬ bt d.2 (j : Int) ≤ 126) ∧ CleanRight_l1 K k m true 0 [d] (i : Int) l len p = some false)
  | 0, i, k, h, hk => by
    obtain ⟨k, rfl⟩ : ∃ m, k = m + 1 := ⟨k - 1, by omega⟩
    refine .inl ⟨fun j h1 h2 => by omega, k, by omega, ?_⟩
    rw [CleanRight_l1_eq]
    have e0 : nth TS1 [d] 0 = d := rfl
    rw [e0]
    simp (disch := omega) only [chk_le, chk_lt, chk_eq, chk_nle, chk_neq, br_lt, br_ge, br_le, br_gt, br_eq, br_ne, br_not, br_true, br_false, br_and, wrap_id, Option.bind_some, List.length_set, List.length_append, List.length_cons, List.length_nil, List.length_take, List.length_drop]
  | e + 1, i, k, h, hk => by
    obtain ⟨k, rfl⟩ : ∃ m, k = m + 1 := ⟨k - 1, by omega⟩
    obtain ⟨k, rfl⟩ : ∃ m, k = m + 1 := ⟨k - 1, by omega⟩
    have e0 : nth TS1 [d] 0 = d := rfl
    rw [CleanRight_l1_eq, e0, br_lt (by omega), br_true, CleanRight_j4_eq, e0, chk_le (by omega), chk_lt (by omega)]
    by_cases hb : bt d.2 (i : Int) ≤ 126
    · rw [br_ge (by omega), wrap_id (x := (i : Int) + 1) (by omega) (by omega), show (i : Int) + 1 = ((i + 1 : Nat) : Int) by omega]
      rcases asc_loop K m l len p d hd e (i + 1) k (by omega) (by omega) with ⟨h1, k', h2, h3⟩ | ⟨⟨j, h1, h2, h3⟩, h4⟩
      · refine .inl ⟨fun j hj1 hj2 => ?_, k', by omega, h3⟩
        by_cases hji : j = i
        · rw [hji]; exact hb
        · exact h1 j (by omega) hj2
      · exact .inr ⟨⟨j, by omega, h2, h3⟩, h4⟩
    · exact .inr ⟨⟨i, Nat.le_refl _, by omega, hb⟩, by rw [br_lt (by omega)]⟩
theorem right_loop (K : Nat) (m : Int) (asc : Bool) (l : List TS1.den) (hl : l.length ≤ 1000000) (hm0 : 0 ≤ m) (hm : m ≤ 100000) (hK : 1 ≤ K) : ∀ (d i k : Nat), i + d = l.length → (2 * m.toNat + 10) * d + 1 ≤ k →
    CleanRight_l0 K k m asc l (l.length : Int) (i : Int) = some ((l.drop i).all (goodD m asc))
  | 0, i, k, h, hk => by
    obtain ⟨k, rfl⟩ : ∃ m, k = m + 1 := ⟨k - 1, by omega⟩
    rw [CleanRight_l0_eq]
    simp (disch := omega) only [chk_le, chk_lt, chk_eq, chk_nle, chk_neq, br_lt, br_ge, br_le, br_gt, br_eq, br_ne, br_not, br_true, br_false, br_and, wrap_id, Option.bind_some, List.length_set, List.length_append, List.length_cons, List.length_nil, List.length_take, List.length_drop]
    rw [List.drop_eq_nil_of_le (by omega)]
    rfl
  | d + 1, i, k, h, hk => by
    have hmul : (2 * m.toNat + 10) * (d + 1) = (2 * m.toNat + 10) * d + (2 * m.toNat + 10) := by rw [Nat.mul_add, Nat.mul_one]
    obtain ⟨k, rfl⟩ : ∃ z, k = z + 4 := ⟨k - 4, by omega⟩
    rw [CleanRight_l0_eq, br_lt (by omega), CleanRight_j1_eq, nth_at TS1 l i (by omega), List.drop_eq_getElem_cons (i := i) (by omega), List.all_cons, chk_le (by omega), chk_lt (by omega)]
    obtain ⟨x, hd⟩ : ∃ x : Int × ByteArray, l[i]'(by omega) = x := ⟨_, rfl⟩
    rw [hd]
    have nxt : IntKind.i64.wrap ((i : Int) + 1) = ((i + 1 : Nat) : Int) := by rw [wrap_id (by omega) (by omega)]; omega
    have stop : CleanRight_j2 K (k + 2) m asc 0 [x] l (l.length : Int) (i : Int) true = some false := by rw [CleanRight_j2_eq, br_true]
    by_cases h1 : x.1 < -1
    · rw [br_lt h1, stop]
      have : goodD m asc x = false := by unfold goodD; rw [decide_eq_false (show ¬ -1 ≤ x.1 by omega)]; rfl
      rw [this]; rfl
    · rw [br_ge (by omega)]
      by_cases h2 : 1 < x.1
      · rw [br_lt h2, stop]
        have : goodD m asc x = false := by unfold goodD; rw [decide_eq_false (show ¬ x.1 ≤ 1 by omega)]; simp
        rw [this]; rfl
      · rw [br_ge (by omega), eqS_iff]
        by_cases h3 : x.2 = ⟨#[]⟩
        · rw [decide_eq_true h3, br_true, stop]
          have : goodD m asc x = false := by unfold goodD; rw [decide_eq_true h3]; simp
          rw [this]; rfl
        · rw [decide_eq_false h3, br_false, CleanChars_ok K x.2 m (by omega) hK]
          simp only [Option.bind_some]
          by_cases h4 : (decide ((x.2.size : Int) ≤ m) && decide (strOfRunes (runesI x.2) = x.2)) = true
          · rw [h4, Bool.not_true]
            rw [Bool.and_eq_true] at h4
            have hsz := of_decide_eq_true h4.1
            have hg : goodD m asc x = (!asc || (List.range x.2.size).all fun i => decide (bt x.2 (i : Int) ≤ 126)) := by
              unfold goodD
              rw [h4.1, h4.2, decide_eq_true (show -1 ≤ x.1 by omega), decide_eq_true (show x.1 ≤ 1 by omega), decide_eq_false h3]
              simp
            rw [CleanRight_j2_eq, br_false, CleanRight_j3_eq, hg]
            cases asc with
            | false =>
              have h5 : CleanRight_l1 K k m false 0 [x] 0 l (l.length : Int) (i : Int) = some ((l.drop (i + 1)).all (goodD m false)) := by
                obtain ⟨k, rfl⟩ : ∃ m, k = m + 1 := ⟨k - 1, by omega⟩
                rw [CleanRight_l1_eq, nxt, br_false]
                have ih := right_loop K m false l hl hm0 hm hK d (i + 1) k (by omega) (by omega)
                have e0 : nth TS1 [x] 0 = x := rfl
                rw [e0]
                by_cases hs0 : 0 < (x.2.size : Int)
                · rw [br_lt hs0]; exact ih
                · rw [br_ge (by omega)]; exact ih
              rw [h5]
              rfl
            | true =>
              rcases asc_loop K m l (l.length : Int) (i : Int) x (by omega) x.2.size 0 k (by omega) (by omega) with ⟨h6, k', h7, h8⟩ | ⟨⟨j, h6, h7, h8⟩, h9⟩
              · have ih := right_loop K m true l hl hm0 hm hK d (i + 1) k' (by omega) (by omega)
                rw [nxt, ih] at h8
                refine h8.trans ?_
                have : ((List.range x.2.size).all fun i => decide (bt x.2 (i : Int) ≤ 126)) = true := by
                  rw [List.all_eq_true]
                  intro j hj
                  exact decide_eq_true (h6 j (Nat.zero_le _) (List.mem_range.1 hj))
                rw [this]; rfl
              · refine h9.trans ?_
                have : ((List.range x.2.size).all fun i => decide (bt x.2 (i : Int) ≤ 126)) = false := by
                  rw [List.all_eq_false]
                  exact ⟨j, List.mem_range.2 h7, by simpa using h8⟩
                rw [this]; rfl
          · have h4' : (decide ((x.2.size : Int) ≤ m) && decide (strOfRunes (runesI x.2) = x.2)) = false := by simpa using h4
            rw [h4', Bool.not_false, stop]
            have : goodD m asc x = false := by
              unfold goodD
              cases hb1 : decide ((x.2.size : Int) ≤ m) with
              | false => simp
              | true =>
                rw [hb1, Bool.true_and] at h4'
                rw [h4']
                simp
            rw [this]; rfl
theorem CleanRight_ok (K : Nat) (l : List TS1.den) (n m : Int) (asc : Bool) (hl : l.length ≤ 1000000) (hm0 : 0 ≤ m) (hm : m ≤ 100000) (hK : (2 * m.toNat + 10) * l.length + 5 ≤ K) :
    CleanRight K l n m asc = some (decide ((l.length : Int) ≤ n) && l.all (goodD m asc)) := by
  obtain ⟨K, rfl⟩ : ∃ m, K = m + 1 := ⟨K - 1, by omega⟩
  obtain ⟨K, rfl⟩ : ∃ m, K = m + 1 := ⟨K - 1, by omega⟩
  rw [CleanRight_eq]
  by_cases hn : (l.length : Int) ≤ n
  · have := right_loop (K + 1) m asc l hl hm0 hm (by omega) l.length 0 K (by omega) (by omega)
    rw [br_ge (by omega), decide_eq_true hn, CleanRight_j0_eq, Bool.true_and]
    exact this
  · rw [br_lt (by omega), decide_eq_false hn]
    rfl
theorem cleanFew_ok (K : Nat) (l : List TS1.den) (hl : l.length ≤ 2147483647) (hK : 3000 ≤ K) : cleanFew K l = some (decide (l.length ≤ 12) && l.all (goodD 40 false)) := by
  obtain ⟨K, rfl⟩ : ∃ m, K = m + 1 := ⟨K - 1, by omega⟩
  rw [cleanFew_eq]
  by_cases h : l.length ≤ 12
  · rw [br_le (by omega), cleanOf_ok K l (by omega) (by omega)]
    simp only [Option.bind_some]
    rw [CleanRight_ok K l 12 40 false (by omega) (by omega) (by omega) (by simp; omega)]
    rw [decide_eq_true h, decide_eq_true (show (l.length : Int) ≤ 12 by omega)]
    rfl
  · rw [br_gt (by omega), decide_eq_false h]
    rfl
theorem fits_loop (K : Nat) (l : List TS1.den) (hl : l.length ≤ 2147483647) (hK : 1 ≤ K) : ∀ (d i k : Nat), i + d = l.length → 2 * d + 1 ≤ k → ∃ b, zzFits3_l0 K k l (l.length : Int) (i : Int) = some b
  | 0, i, k, h, hk => by
    obtain ⟨k, rfl⟩ : ∃ m, k = m + 1 := ⟨k - 1, by omega⟩
    rw [zzFits3_l0_eq]
    simp (disch := omega) only [chk_le, chk_lt, chk_eq, chk_nle, chk_neq, br_lt, br_ge, br_le, br_gt, br_eq, br_ne, br_not, br_true, br_false, br_and, wrap_id, Option.bind_some, List.length_set, List.length_append, List.length_cons, List.length_nil, List.length_take, List.length_drop]
    exact ⟨_, rfl⟩
  | d + 1, i, k, h, hk => by
    obtain ⟨k, rfl⟩ : ∃ m, k = m + 1 := ⟨k - 1, by omega⟩
    obtain ⟨k, rfl⟩ : ∃ m, k = m + 1 := ⟨k - 1, by omega⟩
    obtain ⟨K, rfl⟩ : ∃ m, K = m + 1 := ⟨K - 1, by omega⟩
    rw [zzFits3_l0_eq]
    simp (disch := omega) only [chk_le, chk_lt, chk_eq, chk_nle, chk_neq, br_lt, br_ge, br_le, br_gt, br_eq, br_ne, br_not, br_true, br_false, br_and, wrap_id, Option.bind_some, List.length_set, List.length_append, List.length_cons, List.length_nil, List.length_take, List.length_drop]
    rw [zzFits3_j1_eq, zzFits4_eq]
    simp (disch := omega) only [chk_le, chk_lt, chk_eq, chk_nle, chk_neq, br_lt, br_ge, br_le, br_gt, br_eq, br_ne, br_not, br_true, br_false, br_and, wrap_id, Option.bind_some, List.length_set, List.length_append, List.length_cons, List.length_nil, List.length_take, List.length_drop]
    by_cases hs : 2147483647 < (((nth TS1 l (i : Int)).2).size : Int)
    · rw [br_lt hs]
      exact ⟨_, rfl⟩
    · rw [br_ge (by omega)]
      simp only [Option.bind_some]
      rw [br_true, show (i : Int) + 1 = ((i + 1 : Nat) : Int) by omega]
      exact fits_loop (K + 1) l hl (by omega) d (i + 1) k (by omega) (by omega)
theorem fits_ok (K : Nat) (l : List TS1.den) (hK : 2 * l.length + 10 ≤ K) : zzFits3 K l = some false ∨ (l.length ≤ 2147483647 ∧ ∃ b, zzFits3 K l = some b) := by
  obtain ⟨K, rfl⟩ : ∃ m, K = m + 1 := ⟨K - 1, by omega⟩
  rw [zzFits3_eq]
  by_cases h : 2147483647 < (l.length : Int)
  · rw [br_lt h]; exact .inl rfl
  · rw [br_ge (by omega)]
    obtain ⟨K, rfl⟩ : ∃ m, K = m + 1 := ⟨K - 1, by omega⟩
    rw [zzFits3_j0_eq]
    obtain ⟨b, hb⟩ := fits_loop (K + 1) l (by omega) (by omega) l.length 0 K (by omega) (by omega)
    exact .inr ⟨by omega, b, hb⟩
set_option maxRecDepth 100000 in
theorem awakeT (K : Nat) : callFT Tc (K + 60) 12 () = some true := by kernel_rfl
theorem awake (K : Nat) : deltaAwake (K + 60) = some true := by
  have h := awakeT K
  rw [Tc_eq] at h
  exact h
theorem diffs_loop (K : Nat) (l : List (Int × ByteArray)) (hl : l.length ≤ 1000000) (ht : ∀ d ∈ l, -1 ≤ d.1 ∧ d.1 ≤ 1) : ∀ (d i k : Nat) (acc : List TS0.den), i + d = l.length → acc.length = i → 2 * d + 1 ≤ k →
    diffs_l0 K k acc l (l.length : Int) (i : Int) = some (acc ++ l.drop i)
  | 0, i, k, acc, h, ha, hk => by
    obtain ⟨k, rfl⟩ : ∃ m, k = m + 1 := ⟨k - 1, by omega⟩
    rw [diffs_l0_eq]
    simp (disch := omega) only [chk_le, chk_lt, chk_eq, chk_nle, chk_neq, br_lt, br_ge, br_le, br_gt, br_eq, br_ne, br_not, br_true, br_false, br_and, wrap_id, Option.bind_some, List.length_set, List.length_append, List.length_cons, List.length_nil, List.length_take, List.length_drop]
    rw [List.drop_eq_nil_of_le (by omega), List.append_nil]
  | d + 1, i, k, acc, h, ha, hk => by
    obtain ⟨k, rfl⟩ : ∃ m, k = m + 1 := ⟨k - 1, by omega⟩
    obtain ⟨k, rfl⟩ : ∃ m, k = m + 1 := ⟨k - 1, by omega⟩
    have hty := ht (l[i]'(by omega)) (List.getElem_mem _)
    rw [diffs_l0_eq]
    simp (disch := omega) only [chk_le, chk_lt, chk_eq, chk_nle, chk_neq, br_lt, br_ge, br_le, br_gt, br_eq, br_ne, br_not, br_true, br_false, br_and, wrap_id, Option.bind_some, List.length_set, List.length_append, List.length_cons, List.length_nil, List.length_take, List.length_drop]
    rw [diffs_j0_eq]
    simp (disch := omega) only [chk_le, chk_lt, chk_eq, chk_nle, chk_neq, br_lt, br_ge, br_le, br_gt, br_eq, br_ne, br_not, br_true, br_false, br_and, wrap_id, Option.bind_some, List.length_set, List.length_append, List.length_cons, List.length_nil, List.length_take, List.length_drop]
    rw [show (i : Int) + 1 = ((i + 1 : Nat) : Int) by omega, nth_at TS1 l i (by omega)]
    rw [wrap8_id (by omega) (by omega), diffs_loop K l hl ht d (i + 1) k _ (by omega) (by simp; omega) (by omega), List.drop_eq_getElem_cons (i := i) (by omega), List.append_assoc]
    rfl
theorem diffs_ok (K : Nat) (l : List (Int × ByteArray)) (hl : l.length ≤ 1000000) (ht : ∀ d ∈ l, -1 ≤ d.1 ∧ d.1 ≤ 1) (hK : 2 * l.length + 2 ≤ K) : diffs K l = some l := by
  obtain ⟨K, rfl⟩ : ∃ m, K = m + 1 := ⟨K - 1, by omega⟩
  rw [diffs_eq]
  have := diffs_loop K l hl ht l.length 0 K [] (by omega) rfl (by omega)
  simpa using this
end Go.Proofs.YtfefjbifdbfmjaaDoor.E
