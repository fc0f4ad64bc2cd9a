import Derived.Test.YtblmeoigjbnmiaaDoorV9
import Derived.Test.YtblmeoigjbnmiaaDoorVA
/- The laws' small loops. -/
set_option linter.unusedVariables false
set_option linter.unusedSimpArgs false
namespace Go.Proofs.YtblmeoigjbnmiaaDoor.E
open Go.Ev
/-- The statements' own differences are written as the package's. -/
theorem cleanOf_loop (K : Nat) (l : List TS2.den) (hl : l.length ≤ 1000000) : ∀ (d i k : Nat) (acc : List TS2.den), i + d = l.length → acc.length = i → 2 * d + 1 ≤ k →
    cleanOf_l0 K k acc l (l.length : Int) (i : Int) = some (acc ++ l.drop i)
  | 0, i, k, acc, h, ha, hk => by
    obtain ⟨k, rfl⟩ : ∃ m, k = m + 1 := ⟨k - 1, by omega⟩
    rw [cleanOf_l0_eq]
    simp (disch := omega) only [chk_le, chk_lt, chk_eq, chk_nle, chk_neq, br_lt, br_ge, br_le, br_gt, br_eq, br_ne, br_not, br_true, br_false, br_and, wrap_id, obs, List.length_set, List.length_append, List.length_cons, List.length_nil, List.length_take, List.length_drop]
    rw [List.drop_eq_nil_of_le (by omega), List.append_nil]
  | d + 1, i, k, acc, h, ha, hk => by
    obtain ⟨k, rfl⟩ : ∃ m, k = m + 1 := ⟨k - 1, by omega⟩
    obtain ⟨k, rfl⟩ : ∃ m, k = m + 1 := ⟨k - 1, by omega⟩
    rw [cleanOf_l0_eq]
    simp (disch := omega) only [chk_le, chk_lt, chk_eq, chk_nle, chk_neq, br_lt, br_ge, br_le, br_gt, br_eq, br_ne, br_not, br_true, br_false, br_and, wrap_id, obs, List.length_set, List.length_append, List.length_cons, List.length_nil, List.length_take, List.length_drop]
    rw [cleanOf_j0_eq]
    simp (disch := omega) only [chk_le, chk_lt, chk_eq, chk_nle, chk_neq, br_lt, br_ge, br_le, br_gt, br_eq, br_ne, br_not, br_true, br_false, br_and, wrap_id, obs, List.length_set, List.length_append, List.length_cons, List.length_nil, List.length_take, List.length_drop]
    rw [show (i : Int) + 1 = ((i + 1 : Nat) : Int) by omega, nth_at TS2 l i (by omega), cleanOf_loop K l hl d (i + 1) k _ (by omega) (by simp; omega) (by omega), List.drop_eq_getElem_cons (i := i) (by omega)]
    simp
theorem cleanOf_ok (K : Nat) (l : List TS2.den) (hl : l.length ≤ 1000000) (hK : 2 * l.length + 2 ≤ K) : cleanOf K l = some l := by
  obtain ⟨K, rfl⟩ : ∃ m, K = m + 1 := ⟨K - 1, by omega⟩
  rw [cleanOf_eq]
  have := cleanOf_loop K l hl l.length 0 K [] (by omega) rfl (by omega)
  simpa using this
theorem cleanOwn_ok (K : Nat) (l : List TS2.den) (hl : l.length ≤ 1000000) (hK : 1 ≤ K) : cleanOwn K l = some l := by
  obtain ⟨K, rfl⟩ : ∃ m, K = m + 1 := ⟨K - 1, by omega⟩
  rw [cleanOwn_eq, chk_lt (by omega)]
def Small (l : List M) : Prop := ∀ m ∈ l, m.1 = 0 ∨ m.1 = 1 ∨ m.1 = -1
theorem getE {l : List M} {i : Nat} (h : i < l.length) : (enc l)[i]'(by rw [enc_len]; exact h) = ((l[i]).1, strOfRunes (l[i]).2) := by
  simp [enc, enc1]
theorem diffs_loop (K : Nat) (l : List M) (hl : l.length ≤ 1000000) (ht : Typed l) : ∀ (d i k : Nat) (acc : List TS1.den), i + d = l.length → acc.length = i → 2 * d + 1 ≤ k →
    diffs_l0 K k acc (enc l) (l.length : Int) (i : Int) = some (acc ++ enc (l.drop i))
  | 0, i, k, acc, h, ha, hk => by
    obtain ⟨k, rfl⟩ : ∃ m, k = m + 1 := ⟨k - 1, by omega⟩
    rw [diffs_l0_eq]
    simp (disch := omega) only [chk_le, chk_lt, chk_eq, chk_nle, chk_neq, br_lt, br_ge, br_le, br_gt, br_eq, br_ne, br_not, br_true, br_false, br_and, wrap_id, obs, List.length_set, List.length_append, List.length_cons, List.length_nil, List.length_take, List.length_drop]
    rw [List.drop_eq_nil_of_le (by omega), enc_nil, List.append_nil]
  | d + 1, i, k, acc, h, ha, hk => by
    obtain ⟨k, rfl⟩ : ∃ m, k = m + 1 := ⟨k - 1, by omega⟩
    obtain ⟨k, rfl⟩ : ∃ m, k = m + 1 := ⟨k - 1, by omega⟩
    have hty := ht (l[i]'(by omega)) (List.getElem_mem _)
    have he := enc_len l
    rw [diffs_l0_eq]
    simp (disch := omega) only [chk_le, chk_lt, chk_eq, chk_nle, chk_neq, br_lt, br_ge, br_le, br_gt, br_eq, br_ne, br_not, br_true, br_false, br_and, wrap_id, obs, List.length_set, List.length_append, List.length_cons, List.length_nil, List.length_take, List.length_drop]
    rw [diffs_j0_eq]
    simp (disch := omega) only [chk_le, chk_lt, chk_eq, chk_nle, chk_neq, br_lt, br_ge, br_le, br_gt, br_eq, br_ne, br_not, br_true, br_false, br_and, wrap_id, obs, List.length_set, List.length_append, List.length_cons, List.length_nil, List.length_take, List.length_drop]
    rw [show (i : Int) + 1 = ((i + 1 : Nat) : Int) by omega, nth_at TS2 (enc l) i (by omega), getE (by omega)]
    simp only []
    rw [wrap8_id (by omega) (by omega), diffs_loop K l hl ht d (i + 1) k _ (by omega) (by simp; omega) (by omega), List.drop_eq_getElem_cons (i := i) (by omega), enc_cons, List.append_assoc]
    rfl
theorem diffs_ok (K : Nat) (l : List M) (hl : l.length ≤ 1000000) (ht : Typed l) (hK : 2 * l.length + 2 ≤ K) : diffs K (enc l) = some (enc l) := by
  obtain ⟨K, rfl⟩ : ∃ m, K = m + 1 := ⟨K - 1, by omega⟩
  rw [diffs_eq]
  have := diffs_loop K l hl ht l.length 0 K [] (by omega) rfl (by omega)
  rw [enc_len]
  simpa using this
theorem back_loop (K : Nat) (l : List M) (hl : l.length ≤ 1000000) (ht : Typed l) : ∀ (d i k : Nat) (acc : List TS2.den), i + d = l.length → acc.length = i → 2 * d + 1 ≤ k →
    back_l0 K k acc (enc l) (l.length : Int) (i : Int) = some (acc ++ enc (l.drop i))
  | 0, i, k, acc, h, ha, hk => by
    obtain ⟨k, rfl⟩ : ∃ m, k = m + 1 := ⟨k - 1, by omega⟩
    rw [back_l0_eq]
    simp (disch := omega) only [chk_le, chk_lt, chk_eq, chk_nle, chk_neq, br_lt, br_ge, br_le, br_gt, br_eq, br_ne, br_not, br_true, br_false, br_and, wrap_id, obs, List.length_set, List.length_append, List.length_cons, List.length_nil, List.length_take, List.length_drop]
    rw [List.drop_eq_nil_of_le (by omega), enc_nil]
    exact congrArg some (List.append_nil _).symm
  | d + 1, i, k, acc, h, ha, hk => by
    obtain ⟨k, rfl⟩ : ∃ m, k = m + 1 := ⟨k - 1, by omega⟩
    obtain ⟨k, rfl⟩ : ∃ m, k = m + 1 := ⟨k - 1, by omega⟩
    have hty := ht (l[i]'(by omega)) (List.getElem_mem _)
    have he := enc_len l
    rw [back_l0_eq]
    simp (disch := omega) only [chk_le, chk_lt, chk_eq, chk_nle, chk_neq, br_lt, br_ge, br_le, br_gt, br_eq, br_ne, br_not, br_true, br_false, br_and, wrap_id, obs, List.length_set, List.length_append, List.length_cons, List.length_nil, List.length_take, List.length_drop]
    rw [back_j0_eq]
    simp (disch := omega) only [chk_le, chk_lt, chk_eq, chk_nle, chk_neq, br_lt, br_ge, br_le, br_gt, br_eq, br_ne, br_not, br_true, br_false, br_and, wrap_id, obs, List.length_set, List.length_append, List.length_cons, List.length_nil, List.length_take, List.length_drop]
    rw [show (i : Int) + 1 = ((i + 1 : Nat) : Int) by omega, nth_at TS1 (enc l) i (by omega), getE (by omega)]
    simp only []
    rw [wrap_id (by omega) (by omega), back_loop K l hl ht d (i + 1) k _ (by omega) (by simp; omega) (by omega), List.drop_eq_getElem_cons (i := i) (by omega), enc_cons, List.append_assoc]
    rfl
theorem back_ok (K : Nat) (l : List M) (hl : l.length ≤ 1000000) (ht : Typed l) (hK : 2 * l.length + 2 ≤ K) : back K (enc l) = some (enc l) := by
  obtain ⟨K, rfl⟩ : ∃ m, K = m + 1 := ⟨K - 1, by omega⟩
  rw [back_eq]
  have := back_loop K l hl ht l.length 0 K [] (by omega) rfl (by omega)
  rw [enc_len]
  simpa using this
theorem plain_ok (K : Nat) (hK : 2 ≤ K) : ∃ X, plain K = some X := by
  obtain ⟨K, rfl⟩ : ∃ m, K = m + 1 := ⟨K - 1, by omega⟩
  obtain ⟨K, rfl⟩ : ∃ m, K = m + 1 := ⟨K - 1, by omega⟩
  rw [plain_eq, New_eq]
  exact ⟨_, rfl⟩
theorem sideS_loop (K : Nat) (l : List M) (z : Int) (hl : wt l ≤ 1000000) (ho : Okm l) : ∀ (d i k : Nat) (acc : List Int), i + d = l.length → Okl acc → acc.length + wt (l.drop i) ≤ 1000000 → 2 * d + 1 ≤ k →
    CleanSide_l0 K k z (strOfRunes acc) (enc l) (l.length : Int) (i : Int) = some (strOfRunes (acc ++ side z (l.drop i)))
  | 0, i, k, acc, h, oa, ha, hk => by
    obtain ⟨k, rfl⟩ : ∃ m, k = m + 1 := ⟨k - 1, by omega⟩
    have hwl := wt_len l
    rw [CleanSide_l0_eq]
    simp (disch := omega) only [chk_le, chk_lt, chk_eq, chk_nle, chk_neq, br_lt, br_ge, br_le, br_gt, br_eq, br_ne, br_not, br_true, br_false, br_and, wrap_id, obs, List.length_set, List.length_append, List.length_cons, List.length_nil, List.length_take, List.length_drop]
    rw [List.drop_eq_nil_of_le (by omega), side, List.append_nil]
  | d + 1, i, k, acc, h, oa, ha, hk => by
    obtain ⟨k, rfl⟩ : ∃ m, k = m + 1 := ⟨k - 1, by omega⟩
    obtain ⟨k, rfl⟩ : ∃ m, k = m + 1 := ⟨k - 1, by omega⟩
    have hwl := wt_len l
    have he := enc_len l
    have hd := List.drop_eq_getElem_cons (l := l) (i := i) (by omega)
    rw [hd] at ha
    simp only [wt] at ha
    have oi : Okl (l[i]'(by omega)).2 := ho _ (List.getElem_mem _)
    have s1 := size_le oa
    have s2 := size_le oi
    rw [CleanSide_l0_eq]
    simp (disch := omega) only [chk_le, chk_lt, chk_eq, chk_nle, chk_neq, br_lt, br_ge, br_le, br_gt, br_eq, br_ne, br_not, br_true, br_false, br_and, wrap_id, obs, List.length_set, List.length_append, List.length_cons, List.length_nil, List.length_take, List.length_drop]
    rw [CleanSide_j0_eq]
    simp (disch := omega) only [chk_le, chk_lt, chk_eq, chk_nle, chk_neq, br_lt, br_ge, br_le, br_gt, br_eq, br_ne, br_not, br_true, br_false, br_and, wrap_id, obs, List.length_set, List.length_append, List.length_cons, List.length_nil, List.length_take, List.length_drop]
    rw [show (i : Int) + 1 = ((i + 1 : Nat) : Int) by omega, nth_at TS2 (enc l) i (by omega), getE (by omega), hd]
    simp only [side]
    by_cases hz : (l[i]'(by omega)).1 = z
    · rw [br_eq hz, if_pos hz]
      exact sideS_loop K l z hl ho d (i + 1) k acc (by omega) oa (by omega) (by omega)
    · rw [br_ne hz, if_neg hz, chk_nle (by omega), app_str, ← List.append_assoc]
      exact sideS_loop K l z hl ho d (i + 1) k _ (by omega) (oa.append oi) (by simp; omega) (by omega)
theorem CleanSide_ok (K : Nat) (l : List M) (z : Int) (hl : wt l ≤ 1000000) (ho : Okm l) (hK : 2 * l.length + 2 ≤ K) : CleanSide K (enc l) z = some (strOfRunes (side z l)) := by
  obtain ⟨K, rfl⟩ : ∃ m, K = m + 1 := ⟨K - 1, by omega⟩
  rw [CleanSide_eq, show (⟨#[]⟩ : ByteArray) = strOfRunes [] from rfl]
  have := sideS_loop K l z hl ho l.length 0 K [] (by omega) Okl.nil (by simpa using hl) (by omega)
  rw [enc_len]
  simpa using this
theorem side_okl (z : Int) : ∀ (l : List M), Okm l → Okl (side z l)
  | [], _ => Okl.nil
  | m :: l, h => by
    unfold side
    split
    · exact side_okl z l h.tail
    · exact h.head.append (side_okl z l h.tail)
theorem CleanKept_ok (K : Nat) (l l' : List M) (hl : wt l ≤ 1000000) (ho : Okm l) (hl' : wt l' ≤ 1000000) (ho' : Okm l') (hK : 2 * l.length + 2 * l'.length + 4 ≤ K) : CleanKept K (enc l) (enc l') = some (decide (side 1 l = side 1 l') && decide (side (-1) l = side (-1) l')) := by
  obtain ⟨K, rfl⟩ : ∃ m, K = m + 1 := ⟨K - 1, by omega⟩
  have hs : ∀ z, Okl (side z l) := fun z => side_okl z l ho
  have hs' : ∀ z, Okl (side z l') := fun z => side_okl z l' ho'
  rw [CleanKept_eq, CleanSide_ok K l 1 hl ho (by omega), CleanSide_ok K l' 1 hl' ho' (by omega), CleanSide_ok K l (-1) hl ho (by omega), CleanSide_ok K l' (-1) hl' ho' (by omega)]
  simp only [obs]
  have e : ∀ z, eqS (strOfRunes (side z l)) (strOfRunes (side z l')) = decide (side z l = side z l') := fun z => by
    rw [eqS_iff, decide_eq_decide]
    exact ⟨strOfRunes_inj (hs z) (hs' z), fun h => by rw [h]⟩
  rw [e, e]
  by_cases h : side 1 l = side 1 l'
  · rw [decide_eq_true h]; rfl
  · rw [decide_eq_false h]; rfl
/-- What 'CleanRight' asks of a difference. -/
def goodD (m : Int) (asc : Bool) (d : Int × ByteArray) : Bool :=
  decide (-1 ≤ d.1) && decide (d.1 ≤ 1) && !decide (d.2 = ⟨#[]⟩) && decide ((d.2.size : Int) ≤ m) && decide (strOfRunes (runesI d.2) = d.2) && (!asc || (List.range d.2.size).all fun i => decide (bt d.2 (i : Int) ≤ 126))
theorem CleanChars_ok (K : Nat) (s : ByteArray) (m : Int) (hm : m ≤ 1000000) (hK : 1 ≤ K) : CleanChars K s m = some (decide ((s.size : Int) ≤ m) && decide (strOfRunes (runesI s) = s)) := by
  obtain ⟨K, rfl⟩ : ∃ m, K = m + 1 := ⟨K - 1, by omega⟩
  rw [CleanChars_eq]
  by_cases h : (s.size : Int) ≤ m
  · have := runesI_le s
    rw [br_le h, chk_nle (by omega), eqS_iff, decide_eq_true h]
    rfl
  · rw [br_gt (by omega), decide_eq_false h]
    rfl
theorem asc_loop (K : Nat) (m : Int) (l : List TS2.den) (len p : Int) (d : Int × ByteArray) (hd : d.2.size ≤ 1000000) : ∀ (e i k : Nat), i + e = d.2.size → 2 * e + 1 ≤ k →
    ((∀ j, i ≤ j → j < d.2.size → bt d.2 (j : Int) ≤ 126) ∧ ∃ k', k ≤ k' + (2 * e + 1) ∧ CleanRight_l1 K k m true 0 [d] (i : Int) l len p = CleanRight_l0 K k' m true l len (IntKind.i64.wrap (p + 1))) ∨
    ((∃ j, i ≤ j ∧ j < d.2.size ∧ ¬ bt d.2 (j : Int) ≤ 126) ∧ CleanRight_l1 K k m true 0 [d] (i : Int) l len p = some false)
  | 0, i, k, h, hk => by
    obtain ⟨k, rfl⟩ : ∃ m, k = m + 1 := ⟨k - 1, by omega⟩
    refine .inl ⟨fun j h1 h2 => by omega, k, by omega, ?_⟩
    rw [CleanRight_l1_eq]
    have e0 : nth TS2 [d] 0 = d := rfl
    rw [e0]
    simp (disch := omega) only [chk_le, chk_lt, chk_eq, chk_nle, chk_neq, br_lt, br_ge, br_le, br_gt, br_eq, br_ne, br_not, br_true, br_false, br_and, wrap_id, obs, List.length_set, List.length_append, List.length_cons, List.length_nil, List.length_take, List.length_drop]
  | e + 1, i, k, h, hk => by
    obtain ⟨k, rfl⟩ : ∃ m, k = m + 1 := ⟨k - 1, by omega⟩
    obtain ⟨k, rfl⟩ : ∃ m, k = m + 1 := ⟨k - 1, by omega⟩
    have e0 : nth TS2 [d] 0 = d := rfl
    rw [CleanRight_l1_eq, e0, br_lt (by omega), br_true, CleanRight_j4_eq, e0, chk_le (by omega), chk_lt (by omega)]
    by_cases hb : bt d.2 (i : Int) ≤ 126
    · rw [br_ge (by omega), wrap_id (x := (i : Int) + 1) (by omega) (by omega), show (i : Int) + 1 = ((i + 1 : Nat) : Int) by omega]
      rcases asc_loop K m l len p d hd e (i + 1) k (by omega) (by omega) with ⟨h1, k', h2, h3⟩ | ⟨⟨j, h1, h2, h3⟩, h4⟩
      · refine .inl ⟨fun j hj1 hj2 => ?_, k', by omega, h3⟩
        by_cases hji : j = i
        · rw [hji]; exact hb
        · exact h1 j (by omega) hj2
      · exact .inr ⟨⟨j, by omega, h2, h3⟩, h4⟩
    · exact .inr ⟨⟨i, Nat.le_refl _, by omega, hb⟩, by rw [br_lt (by omega)]⟩
theorem right_loop (K : Nat) (m : Int) (asc : Bool) (l : List TS2.den) (hl : l.length ≤ 1000000) (hm0 : 0 ≤ m) (hm : m ≤ 100000) (hK : 1 ≤ K) : ∀ (d i k : Nat), i + d = l.length → (2 * m.toNat + 10) * d + 1 ≤ k →
    CleanRight_l0 K k m asc l (l.length : Int) (i : Int) = some ((l.drop i).all (goodD m asc))
  | 0, i, k, h, hk => by
    obtain ⟨k, rfl⟩ : ∃ m, k = m + 1 := ⟨k - 1, by omega⟩
    rw [CleanRight_l0_eq]
    simp (disch := omega) only [chk_le, chk_lt, chk_eq, chk_nle, chk_neq, br_lt, br_ge, br_le, br_gt, br_eq, br_ne, br_not, br_true, br_false, br_and, wrap_id, obs, List.length_set, List.length_append, List.length_cons, List.length_nil, List.length_take, List.length_drop]
    rw [List.drop_eq_nil_of_le (by omega)]
    rfl
  | d + 1, i, k, h, hk => by
    have hmul : (2 * m.toNat + 10) * (d + 1) = (2 * m.toNat + 10) * d + (2 * m.toNat + 10) := by rw [Nat.mul_add, Nat.mul_one]
    obtain ⟨k, rfl⟩ : ∃ z, k = z + 4 := ⟨k - 4, by omega⟩
    rw [CleanRight_l0_eq, br_lt (by omega), CleanRight_j1_eq, nth_at TS2 l i (by omega), List.drop_eq_getElem_cons (i := i) (by omega), List.all_cons, chk_le (by omega), chk_lt (by omega)]
    obtain ⟨x, hd⟩ : ∃ x : Int × ByteArray, l[i]'(by omega) = x := ⟨_, rfl⟩
    rw [hd]
    have nxt : IntKind.i64.wrap ((i : Int) + 1) = ((i + 1 : Nat) : Int) := by rw [wrap_id (by omega) (by omega)]; omega
    have stop : CleanRight_j2 K (k + 2) m asc 0 [x] l (l.length : Int) (i : Int) true = some false := by rw [CleanRight_j2_eq, br_true]
    by_cases h1 : x.1 < -1
    · rw [br_lt h1, stop]
      have : goodD m asc x = false := by unfold goodD; rw [decide_eq_false (show ¬ -1 ≤ x.1 by omega)]; rfl
      rw [this]; rfl
    · rw [br_ge (by omega)]
      by_cases h2 : 1 < x.1
      · rw [br_lt h2, stop]
        have : goodD m asc x = false := by unfold goodD; rw [decide_eq_false (show ¬ x.1 ≤ 1 by omega)]; simp
        rw [this]; rfl
      · rw [br_ge (by omega), eqS_iff]
        by_cases h3 : x.2 = ⟨#[]⟩
        · rw [decide_eq_true h3, br_true, stop]
          have : goodD m asc x = false := by unfold goodD; rw [decide_eq_true h3]; simp
          rw [this]; rfl
        · rw [decide_eq_false h3, br_false, CleanChars_ok K x.2 m (by omega) hK]
          simp only [obs]
          by_cases h4 : (decide ((x.2.size : Int) ≤ m) && decide (strOfRunes (runesI x.2) = x.2)) = true
          · rw [h4, Bool.not_true]
            rw [Bool.and_eq_true] at h4
            have hsz := of_decide_eq_true h4.1
            have hg : goodD m asc x = (!asc || (List.range x.2.size).all fun i => decide (bt x.2 (i : Int) ≤ 126)) := by
              unfold goodD
              rw [h4.1, h4.2, decide_eq_true (show -1 ≤ x.1 by omega), decide_eq_true (show x.1 ≤ 1 by omega), decide_eq_false h3]
              simp
            rw [CleanRight_j2_eq, br_false, CleanRight_j3_eq, hg]
            cases asc with
            | false =>
              have h5 : CleanRight_l1 K k m false 0 [x] 0 l (l.length : Int) (i : Int) = some ((l.drop (i + 1)).all (goodD m false)) := by
                obtain ⟨k, rfl⟩ : ∃ m, k = m + 1 := ⟨k - 1, by omega⟩
                rw [CleanRight_l1_eq, nxt, br_false]
                have ih := right_loop K m false l hl hm0 hm hK d (i + 1) k (by omega) (by omega)
                have e0 : nth TS2 [x] 0 = x := rfl
                rw [e0]
                by_cases hs0 : 0 < (x.2.size : Int)
                · rw [br_lt hs0]; exact ih
                · rw [br_ge (by omega)]; exact ih
              rw [h5]
              rfl
            | true =>
              rcases asc_loop K m l (l.length : Int) (i : Int) x (by omega) x.2.size 0 k (by omega) (by omega) with ⟨h6, k', h7, h8⟩ | ⟨⟨j, h6, h7, h8⟩, h9⟩
              · have ih := right_loop K m true l hl hm0 hm hK d (i + 1) k' (by omega) (by omega)
                rw [nxt, ih] at h8
                refine h8.trans ?_
                have : ((List.range x.2.size).all fun i => decide (bt x.2 (i : Int) ≤ 126)) = true := by
                  rw [List.all_eq_true]
                  intro j hj
                  exact decide_eq_true (h6 j (Nat.zero_le _) (List.mem_range.1 hj))
                rw [this]; rfl
              · refine h9.trans ?_
                have : ((List.range x.2.size).all fun i => decide (bt x.2 (i : Int) ≤ 126)) = false := by
                  rw [List.all_eq_false]
                  exact ⟨j, List.mem_range.2 h7, by simpa using h8⟩
                rw [this]; rfl
          · have h4' : (decide ((x.2.size : Int) ≤ m) && decide (strOfRunes (runesI x.2) = x.2)) = false := by simpa using h4
            rw [h4', Bool.not_false, stop]
            have : goodD m asc x = false := by
              unfold goodD
              cases hb1 : decide ((x.2.size : Int) ≤ m) with
              | false => simp
              | true =>
                rw [hb1, Bool.true_and] at h4'
                rw [h4']
                simp
            rw [this]; rfl
theorem CleanRight_ok (K : Nat) (l : List TS2.den) (n m : Int) (asc : Bool) (hl : l.length ≤ 1000000) (hm0 : 0 ≤ m) (hm : m ≤ 100000) (hK : (2 * m.toNat + 10) * l.length + 5 ≤ K) :
    CleanRight K l n m asc = some (decide ((l.length : Int) ≤ n) && l.all (goodD m asc)) := by
  obtain ⟨K, rfl⟩ : ∃ m, K = m + 1 := ⟨K - 1, by omega⟩
  obtain ⟨K, rfl⟩ : ∃ m, K = m + 1 := ⟨K - 1, by omega⟩
  rw [CleanRight_eq]
  by_cases hn : (l.length : Int) ≤ n
  · have := right_loop (K + 1) m asc l hl hm0 hm (by omega) l.length 0 K (by omega) (by omega)
    rw [br_ge (by omega), decide_eq_true hn, CleanRight_j0_eq, Bool.true_and]
    exact this
  · rw [br_lt (by omega), decide_eq_false hn]
    rfl
/-- Differences that are right are texts of code points. -/
theorem good_enc {m : Int} {asc : Bool} : ∀ (l : List TS2.den), l.all (goodD m asc) = true → ∃ e : List M, l = enc e ∧ Okm e ∧ Typed e ∧ ∀ x ∈ e, x.2 ≠ [] ∧ (x.2.length : Int) ≤ m
  | [], _ => ⟨[], rfl, Okm.nil, Typed.nil, fun x h => by cases h⟩
  | d :: l, h => by
    rw [List.all_cons, Bool.and_eq_true] at h
    obtain ⟨e, rfl, h1, h2, h3⟩ := good_enc l h.2
    have hg := h.1
    unfold goodD at hg
    simp only [Bool.and_eq_true, Bool.not_eq_true', decide_eq_true_eq, decide_eq_false_iff_not] at hg
    obtain ⟨⟨⟨⟨⟨g1, g2⟩, g3⟩, g4⟩, g5⟩, _⟩ := hg
    have hv : Vt d.2 := (Vt_iff _).1 g5
    have hdt : ∀ {z : Int}, -1 ≤ z → z ≤ 1 → z = 0 ∨ z = 1 ∨ z = -1 := fun {z} h1 h2 => by omega
    refine ⟨(d.1, runesI d.2) :: e, ?_, Okm.cons hv.okl h1, Typed.cons (hdt g1 g2) h2, fun x hx => ?_⟩
    · rw [enc_cons, g5]
    · rcases List.mem_cons.1 hx with rfl | hx
      · refine ⟨fun h0 => g3 ?_, ?_⟩
        · have h0' : runesI d.2 = [] := h0
          rw [← g5, h0']; rfl
        · have := runesI_le d.2
          simp only []
          omega
      · exact h3 x hx
theorem CleanMerge_ok (K : Nat) (l : List M) (W : Nat) (hW : wt l + mu l ≤ W) (hW2 : W ≤ 10000) (oT : Okm l) (tT : Typed l) (hK : 40 * W + 1000 ≤ K) : CleanMerge K (enc l) = some (enc (dcm (mu l + 1) l)) := by
  obtain ⟨K, rfl⟩ : ∃ m, K = m + 1 := ⟨K - 1, by omega⟩
  obtain ⟨X, hX⟩ := plain_ok K (by omega)
  have hwl := wt_len l
  have hd := dcm_ok (mu l + 1) l W K X (by omega) oT tT hW (by omega) (by omega)
  obtain ⟨l', e1, e2, o', t', s', w', m'⟩ := dcm_spec (mu l + 1) l (by omega) oT tT
  obtain ⟨_, _, _, _, _, o2, t2, _, w2, _⟩ := p1_spec l' t' o'
  have hwp := wt_len (p1 l')
  rw [CleanMerge_eq, hX]
  simp only [obs]
  rw [diffs_ok K l (by omega) tT (by omega)]
  simp only [obs]
  rw [hd]
  simp only [obs]
  rw [e1, back_ok K (p1 l') (by omega) t2 (by omega)]
  rfl
theorem fits_loop (K : Nat) (l : List TS2.den) (hl : l.length ≤ 2147483647) (hK : 1 ≤ K) : ∀ (d i k : Nat), i + d = l.length → 2 * d + 1 ≤ k → ∃ b, zzFits3_l0 K k l (l.length : Int) (i : Int) = some b
  | 0, i, k, h, hk => by
    obtain ⟨k, rfl⟩ : ∃ m, k = m + 1 := ⟨k - 1, by omega⟩
    rw [zzFits3_l0_eq]
    simp (disch := omega) only [chk_le, chk_lt, chk_eq, chk_nle, chk_neq, br_lt, br_ge, br_le, br_gt, br_eq, br_ne, br_not, br_true, br_false, br_and, wrap_id, obs, List.length_set, List.length_append, List.length_cons, List.length_nil, List.length_take, List.length_drop]
    exact ⟨_, rfl⟩
  | d + 1, i, k, h, hk => by
    obtain ⟨k, rfl⟩ : ∃ m, k = m + 1 := ⟨k - 1, by omega⟩
    obtain ⟨k, rfl⟩ : ∃ m, k = m + 1 := ⟨k - 1, by omega⟩
    obtain ⟨K, rfl⟩ : ∃ m, K = m + 1 := ⟨K - 1, by omega⟩
    rw [zzFits3_l0_eq]
    simp (disch := omega) only [chk_le, chk_lt, chk_eq, chk_nle, chk_neq, br_lt, br_ge, br_le, br_gt, br_eq, br_ne, br_not, br_true, br_false, br_and, wrap_id, obs, List.length_set, List.length_append, List.length_cons, List.length_nil, List.length_take, List.length_drop]
    rw [zzFits3_j1_eq, zzFits4_eq]
    simp (disch := omega) only [chk_le, chk_lt, chk_eq, chk_nle, chk_neq, br_lt, br_ge, br_le, br_gt, br_eq, br_ne, br_not, br_true, br_false, br_and, wrap_id, obs, List.length_set, List.length_append, List.length_cons, List.length_nil, List.length_take, List.length_drop]
    by_cases hs : 2147483647 < (((nth TS2 l (i : Int)).2).size : Int)
    · rw [br_lt hs]
      exact ⟨_, rfl⟩
    · rw [br_ge (by omega)]
      simp only [obs]
      rw [br_true, show (i : Int) + 1 = ((i + 1 : Nat) : Int) by omega]
      exact fits_loop (K + 1) l hl (by omega) d (i + 1) k (by omega) (by omega)
theorem fits_ok (K : Nat) (l : List TS2.den) (hK : 2 * l.length + 10 ≤ K) : zzFits3 K l = some false ∨ (l.length ≤ 2147483647 ∧ ∃ b, zzFits3 K l = some b) := by
  obtain ⟨K, rfl⟩ : ∃ m, K = m + 1 := ⟨K - 1, by omega⟩
  rw [zzFits3_eq]
  by_cases h : 2147483647 < (l.length : Int)
  · rw [br_lt h]; exact .inl rfl
  · rw [br_ge (by omega)]
    obtain ⟨K, rfl⟩ : ∃ m, K = m + 1 := ⟨K - 1, by omega⟩
    rw [zzFits3_j0_eq]
    obtain ⟨b, hb⟩ := fits_loop (K + 1) l (by omega) (by omega) l.length 0 K (by omega) (by omega)
    exact .inr ⟨by omega, b, hb⟩
end Go.Proofs.YtblmeoigjbnmiaaDoor.E
