import Derived.Test.YtfglahmbnnkijaaLW
/- A text's characters; the size of edits; the least size. -/
set_option linter.unusedVariables false
set_option linter.unusedSimpArgs false
namespace Go.Proofs.Ytfglahmbnnkijaa.E
open Go.Ev Go.Lcs Go.Lib
theorem dec_at (s : ByteArray) (i : Nat) : Utf8.decode s i = decodeL (s.data.toList.drop i) := by
  have hsz := szL s
  have e0 : ∀ k, (s.get! (i + k)) = (s.data.toList.drop i).getD k 0 := by
    intro k
    rw [getB, List.getD_eq_getElem?_getD, List.getD_eq_getElem?_getD, List.getElem?_drop]
  rw [decodeL_eq, decode_at, List.length_drop, hsz, ← e0 0, ← e0 1, ← e0 2, ← e0 3]
  rfl
theorem more_at {h : Hp} {n pos : Nat} {s : ByteArray} (ho : h.ob n = some (.iter s pos)) : Hp.more h (.at n 0) = some (decide (pos < s.size)) := by
  simp only [Hp.more, ho]
  cases hb : Nat.blt pos s.size with
  | true => rw [decide_eq_true (by rw [← Nat.blt_eq]; exact hb)]
  | false => rw [decide_eq_false (by rw [← Nat.blt_eq, hb]; exact Bool.false_ne_true)]
theorem nxt_at {h : Hp} {n pos : Nat} {s : ByteArray} (ho : h.ob n = some (.iter s pos)) : Hp.nxt h (.at n 0) = some ((pos : Int), ((decodeL (s.data.toList.drop pos)).1 : Int), h.set n (some (.iter s (pos + (decodeL (s.data.toList.drop pos)).2)))) := by
  simp only [Hp.nxt, ho, dec_at]
/-- The texts of one character each. -/
def chars (l : List Int) : List ByteArray := l.map fun r => strOfRunes [r]
theorem chars_len (l : List Int) : (chars l).length = l.length := List.length_map ..
theorem chars_at (l : List Int) (i : Nat) (hi : i < (chars l).length) : (chars l)[i] = strOfRunes [l[i]'(by rw [← chars_len]; exact hi)] := by
  simp only [chars, List.getElem_map]
theorem ech_loop (K : Nat) (s : ByteArray) : ∀ (n k pos : Nat) (acc : List ByteArray) (h : Hp), h.ob 0 = some (.iter s pos) → s.size - pos ≤ n → 2 * n + 1 ≤ k → acc.length + n ≤ 100000 →
    EditChars_l0 K k acc (.at 0 0) h = some (acc ++ chars (runesB (s.data.toList.drop pos))) := by
  have hsz := szL s
  intro n
  induction n with
  | zero =>
    intro k pos acc h ho hn hk _
    obtain ⟨k, rfl⟩ : ∃ q, k = q + 1 := ⟨k - 1, by omega⟩
    rw [EditChars_l0_eq, more_at ho, obs, decide_eq_false (by omega), br_false, List.drop_eq_nil_of_le (by omega), runesB_nil]
    show some acc = some (acc ++ [])
    rw [List.append_nil]
  | succ n ih =>
    intro k pos acc h ho hn hk hl
    obtain ⟨k, rfl⟩ : ∃ q, k = q + 2 := ⟨k - 2, by omega⟩
    by_cases hp : pos < s.size
    · have hw := decodeL_width (s.data.toList.drop pos)
      have hst := ih k (pos + (decodeL (s.data.toList.drop pos)).2) (acc ++ [strOfRunes [((decodeL (s.data.toList.drop pos)).1 : Int)]]) (h.set 0 (some (.iter s (pos + (decodeL (s.data.toList.drop pos)).2)))) (by rw [set_ob, if_pos rfl]) (by omega) (by omega) (by rw [List.length_append, List.length_singleton]; omega)
      rw [EditChars_l0_eq, more_at ho, obs, decide_eq_true hp, br_true, nxt_at ho, obs]
      show EditChars_j0 K (k + 1) acc (.at 0 0) true (pos : Int) ((decodeL (s.data.toList.drop pos)).1 : Int) (h.set 0 (some (.iter s (pos + (decodeL (s.data.toList.drop pos)).2)))) = _
      rw [EditChars_j0_eq, List.length_singleton, chk_lt (by omega), hst, runesB_step (s.data.toList.drop pos) (by rw [← List.length_pos_iff, List.length_drop]; omega), List.drop_drop]
      show some (acc ++ [_] ++ _) = some (acc ++ (_ :: _))
      rw [List.append_assoc]
      rfl
    · rw [EditChars_l0_eq, more_at ho, obs, decide_eq_false hp, br_false, List.drop_eq_nil_of_le (by omega), runesB_nil]
      show some acc = some (acc ++ [])
      rw [List.append_nil]
theorem EditChars_ok (K : Nat) (s : ByteArray) (hs : s.size ≤ 10000) (hK : 2 * s.size + 2 ≤ K) : EditChars K s = some (chars (runesI s)) := by
  obtain ⟨K, rfl⟩ : ∃ m, K = m + 1 := ⟨K - 1, by omega⟩
  rw [EditChars_eq, ech_loop K s s.size K 0 [] _ rfl (by omega) (by omega) (by simp only [List.length_nil]; omega), List.drop_zero, ← runesI_eq]
  rfl
/-! ### the size -/
theorem size_loop (K : Nat) (h : Hp) (r : Rf) (la lb : List Int) (okA : Okl la) (okB : Okl lb) (sa : (strOfRunes la).size ≤ 200) (sb : (strOfRunes lb).size ≤ 200) (S : List Ed) (hs : SlL h 41 TS1 r S) (hl : S.length ≤ 1000) (ha : la.length ≤ 1000) (hb : lb.length ≤ 1000) (hK : 1000 ≤ K) :
    ∀ (R : List Sp) (P : List Ed) (i k : Int) (acc : Int) (f : Nat), P ++ R.map (edR la lb) = S → 0 ≤ i → 0 ≤ k → Ld (EM (Eqs la lb) la.length lb.length) R i k la.length lb.length → 0 ≤ acc → acc ≤ 2000 * P.length → 2 * R.length + 1 ≤ f →
    EditSize_l0 K f (strOfRunes la) acc r (S.length : Int) (P.length : Int) h = some (h, acc + ssum R) := by
  intro R
  induction R with
  | nil =>
    intro P i k acc f hP _ _ _ _ _ hf
    obtain ⟨f, rfl⟩ : ∃ q, f = q + 1 := ⟨f - 1, by omega⟩
    rw [List.map_nil, List.append_nil] at hP
    rw [EditSize_l0_eq, br_ge (by rw [hP]; omega)]
    show some (h, acc) = some (h, acc + 0)
    rw [Int.add_zero]
  | cons s R ih =>
    intro P i k acc f hP hi hk hld h0 hacc hf
    simp only [List.length_cons] at hf
    obtain ⟨f, rfl⟩ : ∃ q, f = q + 2 := ⟨f - 2, by omega⟩
    obtain ⟨g1, g2, g3, g4, g5, g6, g7, g8, _, g9⟩ := hld
    have hll : S.length = P.length + (R.length + 1) := by rw [← hP]; simp
    have hL : S[P.length]'(by omega) = edR la lb s := by
      have : S[P.length]? = some (edR la lb s) := by rw [← hP]; simp
      exact (List.getElem?_eq_some_iff.1 this).2
    have p1 := pos_le la s.1.toNat s.2.1.toNat (by omega)
    have p2 := pos_size la s.2.1.toNat
    have m1 : runesI (strOfRunes ((la.drop s.1.toNat).take (s.2.1.toNat - s.1.toNat))) = (la.drop s.1.toNat).take (s.2.1.toNat - s.1.toNat) := runesI_of ((okA.drop _).take _)
    have m2 : runesI (strOfRunes ((lb.drop s.2.2.1.toNat).take (s.2.2.2 - s.2.2.1).toNat)) = (lb.drop s.2.2.1.toNat).take (s.2.2.2 - s.2.2.1).toNat := runesI_of ((okB.drop _).take _)
    have z1 := new_size la s.1.toNat (s.2.1.toNat - s.1.toNat)
    have z2 := new_size lb s.2.2.1.toNat (s.2.2.2 - s.2.2.1).toNat
    have c1 := EditChars_ok K (strOfRunes ((la.drop s.1.toNat).take (s.2.1.toNat - s.1.toNat))) (by omega) (by omega)
    have c2 := EditChars_ok K (strOfRunes ((lb.drop s.2.2.1.toNat).take (s.2.2.2 - s.2.2.1).toNat)) (by omega) (by omega)
    rw [m1] at c1
    rw [m2] at c2
    have l1 : ((chars ((la.drop s.1.toNat).take (s.2.1.toNat - s.1.toNat))).length : Int) = s.2.1 - s.1 := by rw [chars_len, List.length_take, List.length_drop]; omega
    have l2 : ((chars ((lb.drop s.2.2.1.toNat).take (s.2.2.2 - s.2.2.1).toNat)).length : Int) = s.2.2.2 - s.2.2.1 := by rw [chars_len, List.length_take, List.length_drop]; omega
    have hst := ih (P ++ [edR la lb s]) s.2.1 s.2.2.2 (acc + (s.2.1 - s.1 + (s.2.2.2 - s.2.2.1))) f (by rw [List.append_assoc]; exact hP) (by omega) (by omega) g9 (by omega) (by rw [List.length_append, List.length_singleton]; omega) (by omega)
    rw [List.length_append, List.length_singleton] at hst
    have w2 : IntKind.wrap IntKind.i64 (acc + IntKind.wrap IntKind.i64 ((s.2.1 - s.1) + (s.2.2.2 - s.2.2.1))) = acc + (s.2.1 - s.1 + (s.2.2.2 - s.2.2.1)) := by
      rw [wrap_id (x := (s.2.1 - s.1) + (s.2.2.2 - s.2.2.1)) (by omega) (by omega), wrap_id (by omega) (by omega)]
    have w3 : IntKind.wrap IntKind.i64 ((P.length : Int) + 1) = ((P.length + 1 : Nat) : Int) := by
      rw [wrap_id (by omega) (by omega)]
      rfl
    rw [EditSize_l0_eq, br_lt (by omega), EditSize_j0_eq, hs.rlen, chk_le (by omega), chk_lt (by omega), SlL.ld3 hs P.length (by omega), obs, hL]
    show chk (leI 0 (pos la s.1.toNat : Int)) (chk (leI (pos la s.1.toNat : Int) (pos la s.2.1.toNat : Int)) (chk (leI (pos la s.2.1.toNat : Int) ((strOfRunes la).size : Int)) (Option.bind (EditChars K ((strOfRunes la).extract (Int.toNat (pos la s.1.toNat : Int)) (Int.toNat (pos la s.2.1.toNat : Int)))) fun r1 =>
      Option.bind (EditChars K (strOfRunes ((lb.drop s.2.2.1.toNat).take (s.2.2.2 - s.2.2.1).toNat))) fun r2 =>
      EditSize_l0 K f (strOfRunes la) (IntKind.wrap IntKind.i64 (acc + (IntKind.wrap IntKind.i64 ((r1.length : Int) + (r2.length : Int))))) r (S.length : Int) (IntKind.wrap IntKind.i64 ((P.length : Int) + 1)) h))) = _
    rw [chk_le (by omega), chk_le (by omega), chk_le (by omega), Int.toNat_natCast, Int.toNat_natCast, ext_pos la _ _ (by omega), c1, obs, c2, obs, l1, l2, w2, w3, hst]
    show some (h, _) = some (h, acc + (s.2.1 - s.1 + s.2.2.2 - s.2.2.1 + ssum R))
    congr 2
    omega
theorem EditSize_ok (K : Nat) (h : Hp) (r : Rf) (la lb : List Int) (okA : Okl la) (okB : Okl lb) (sa : (strOfRunes la).size ≤ 200) (sb : (strOfRunes lb).size ≤ 200) (D : List Sp) (hs : SlL h 41 TS1 r (D.map (edR la lb))) (ha : la.length ≤ 400) (hb : lb.length ≤ 400) (hld : Ld (EM (Eqs la lb) la.length lb.length) D 0 0 la.length lb.length) (hK : 3000 ≤ K) :
    EditSize K h (strOfRunes la) r = some (h, ssum D) := by
  obtain ⟨K, rfl⟩ : ∃ m, K = m + 1 := ⟨K - 1, by omega⟩
  have hb2 := (ld_bound D 0 0 hld).2
  rw [EditSize_eq, hs.rlen]
  have := size_loop K h r la lb okA okB sa sb _ hs (by rw [List.length_map]; omega) (by omega) (by omega) (by omega) D [] 0 0 0 K rfl (Int.le_refl 0) (Int.le_refl 0) hld (Int.le_refl 0) (Int.le_refl 0) (by omega)
  rw [Int.zero_add] at this
  exact this
/-! ### the least size -/
theorem ld1 {h : Hp} {n len : Nat} {L : List Int} (ho : HO h 3 (.int .i64) n L) (i : Nat) {v : Int} (hv : L[i]? = some v) : Hp.ld h (.p (.int .i64)) (radr 1 (Int.toNat (i : Int)) (.at n 0 len)) = some v := by
  obtain ⟨hi, rfl⟩ := List.getElem?_eq_some_iff.1 hv
  rw [radr0]
  exact ho.ld i hi
theorem wr1 {h : Hp} {n len : Nat} {L : List Int} (ho : HO h 3 (.int .i64) n L) (i : Nat) (hi : i < L.length) (x : Int) : ∃ h', Hp.st h (.p (.int .i64)) (radr 1 (Int.toNat (i : Int)) (.at n 0 len)) x = some h' ∧ HO h' 3 (.int .i64) n (L.set i x) ∧ Only n h h' := by
  rw [radr0]
  exact ho.wr i hi x
/-- A row as far as K. -/
def RowOk (E : Int → Int → Prop) (i : Nat) (L : List Int) (K : Nat) : Prop := ∀ j, j < K → ∃ n : Nat, L[j]? = some (n : Int) ∧ Dist E i j n ∧ n ≤ i + j
theorem RowOk.put {E : Int → Int → Prop} {i : Nat} {L : List Int} {K : Nat} (h : RowOk E i L K) (n : Nat) (hK : K < L.length) (hd : Dist E i K n) (hn : n ≤ i + K) : RowOk E i (L.set K (n : Int)) (K + 1) := by
  intro j hj
  by_cases e : j = K
  · subst e
    exact ⟨n, by rw [List.getElem?_set_self hK], hd, hn⟩
  · obtain ⟨m, h1, h2, h3⟩ := h j (by omega)
    exact ⟨m, by rw [List.getElem?_set_ne (by omega)]; exact h1, h2, h3⟩
theorem RowOk.set {E : Int → Int → Prop} {i : Nat} {L : List Int} {K : Nat} (h : RowOk E i L K) (x : Int) (k : Nat) (hk : K ≤ k) : RowOk E i (L.set k x) K := by
  intro j hj
  obtain ⟨m, h1, h2, h3⟩ := h j hj
  exact ⟨m, by rw [List.getElem?_set_ne (by omega)]; exact h1, h2, h3⟩
theorem wm1 (j : Nat) (h : j ≤ 100000) : IntKind.wrap IntKind.i64 (((j + 1 : Nat) : Int) - 1) = (j : Int) := by rw [wrap_id (by omega) (by omega)]; omega
theorem wp1 (j : Nat) (h : j ≤ 100000) : IntKind.wrap IntKind.i64 ((j : Int) + 1) = ((j + 1 : Nat) : Int) := by rw [wrap_id (by omega) (by omega)]; omega
theorem cmin (a b : Nat) (h : a ≤ 10000) : IntKind.wrap IntKind.i64 ((cond (ltI (b : Int) (a : Int)) (b : Int) (a : Int)) + 1) = ((min a b + 1 : Nat) : Int) := by
  rw [ltI_eq]
  by_cases hc : (b : Int) < (a : Int)
  · rw [decide_eq_true hc, cond_true, wrap_id (by omega) (by omega)]
    omega
  · rw [decide_eq_false hc, cond_false, wrap_id (by omega) (by omega)]
    omega
theorem el_l2 (K : Nat) (la lb : List Int) (okA : Okl la) (okB : Okl lb) (sa : la.length ≤ 1000) (sb : lb.length ≤ 1000) (i : Nat) (hi : i < la.length) (n m : Nat) (hnm : n ≠ m) (L : List Int) (hrow : RowOk (EM (Eqs la lb) la.length lb.length) i L (lb.length + 1)) :
    ∀ (q k j : Nat) (h : Hp) (C : List Int), q + j = lb.length → HO h 3 (.int .i64) n L → HO h 3 (.int .i64) m C → C.length = lb.length + 1 → RowOk (EM (Eqs la lb) la.length lb.length) (i + 1) C (j + 1) → m < h.nx → 2 * q + 1 ≤ k →
    ∃ h' C' k', EditLeast_l2 K k (chars la) (chars lb) (.at n 0 (lb.length + 1)) ((i + 1 : Nat) : Int) (.at m 0 (lb.length + 1)) ((j + 1 : Nat) : Int) h = EditLeast_l1 K k' (chars la) (chars lb) (.at m 0 (lb.length + 1)) ((i + 1 + 1 : Nat) : Int) h' ∧ k ≤ k' + (2 * q + 1) ∧ HO h' 3 (.int .i64) m C' ∧ C'.length = lb.length + 1 ∧ RowOk (EM (Eqs la lb) la.length lb.length) (i + 1) C' (lb.length + 1) ∧ m < h'.nx := by
  intro q
  induction q with
  | zero =>
    intro k j h C hq hL hC hcl hr hm hk
    obtain ⟨k, rfl⟩ : ∃ q, k = q + 1 := ⟨k - 1, by omega⟩
    have hj : j = lb.length := by omega
    subst hj
    refine ⟨h, C, k, ?_, by omega, hC, hcl, hr, hm⟩
    rw [EditLeast_l2_eq, chars_len, br_gt (by omega), wp1 _ (by omega)]
  | succ q ih =>
    intro k j h C hq hL hC hcl hr hm hk
    obtain ⟨k, rfl⟩ : ∃ q, k = q + 2 := ⟨k - 2, by omega⟩
    obtain ⟨a, ea, da, ba⟩ := hrow (j + 1) (by omega)
    obtain ⟨b, eb, db, bb⟩ := hr j (by omega)
    obtain ⟨c, ec, dc, bc⟩ := hrow j (by omega)
    obtain ⟨h1, s1, o1, on1⟩ := wr1 (len := lb.length + 1) hC (j + 1) (by omega) ((min a b + 1 : Nat) : Int)
    have hL1 : HO h1 3 (.int .i64) n L := (on1.2 n hnm).trans hL
    have hE : EM (Eqs la lb) la.length lb.length (i : Int) (j : Int) ↔ la[i]? = lb[j]? := by
      constructor
      · rintro ⟨_, _, _, _, e⟩
        exact e
      · intro e
        exact ⟨by omega, by omega, by omega, by omega, e⟩
    have n1 : nth (.str) (chars la) (i : Int) = strOfRunes [la[i]] := by rw [nth_at .str (chars la) i (by rw [chars_len]; exact hi), chars_at]
    have n2 : nth (.str) (chars lb) (j : Int) = strOfRunes [lb[j]'(by omega)] := by rw [nth_at .str (chars lb) j (by rw [chars_len]; omega), chars_at]
    rw [EditLeast_l2_eq, chars_len, br_le (by omega), EditLeast_j4_eq, wm1 j (by omega), wm1 i (by omega), rlen0, rlen0, chars_len, chars_len, chk_le (by omega), chk_lt (by omega), ld1 hL (j + 1) ea, obs, chk_le (by omega), chk_lt (by omega), ld1 hC j eb, obs, chk_le (by omega), chk_lt (by omega), cmin a b (by omega), s1, obs, chk_le (by omega), chk_lt (by omega), chk_le (by omega), chk_lt (by omega), n1, n2, eqS_iff, wp1 (j + 1) (by omega)]
    by_cases e : la[i] = lb[j]'(by omega)
    · obtain ⟨h2, s2, o2, on2⟩ := wr1 (len := lb.length + 1) o1 (j + 1) (by rw [List.length_set]; omega) (c : Int)
      rw [e, decide_eq_true rfl, br_true, chk_le (by omega), chk_lt (by omega), ld1 hL1 j ec, obs, chk_le (by omega), chk_lt (by omega), s2, obs]
      have hd : Dist (EM (Eqs la lb) la.length lb.length) ((i + 1 : Nat) : Int) ((j + 1 : Nat) : Int) c := dc.same (hE.2 (by rw [List.getElem?_eq_getElem hi, List.getElem?_eq_getElem (by omega : j < lb.length), e]))
      have hr2 := ((hr.set ((min a b + 1 : Nat) : Int) (j + 1) (by omega)).put c (by rw [List.length_set]; omega) hd (by omega))
      obtain ⟨h', C', k', g1, g2, g3⟩ := ih k (j + 1) h2 _ (by omega) ((on2.2 n hnm).trans hL1) o2 (by rw [List.length_set, List.length_set]; omega) hr2 (by rw [on2.1, on1.1]; exact hm) (by omega)
      exact ⟨h', C', k', g1, by omega, g3⟩
    · rw [decide_eq_false (fun hs => e (by
        have := strOfRunes_inj (a := [la[i]]) (b := [lb[j]'(by omega)]) (fun r hr => by rw [List.mem_singleton.1 hr]; exact okA _ (List.getElem_mem _)) (fun r hr => by rw [List.mem_singleton.1 hr]; exact okB _ (List.getElem_mem _)) hs
        exact List.head_eq_of_cons_eq this)), br_false]
      have hd : Dist (EM (Eqs la lb) la.length lb.length) ((i + 1 : Nat) : Int) ((j + 1 : Nat) : Int) (min a b + 1) := Dist.diff da db (fun h => e (by
        have := hE.1 h
        rw [List.getElem?_eq_getElem hi, List.getElem?_eq_getElem (by omega : j < lb.length)] at this
        exact Option.some.inj this))
      have hr2 := hr.put (min a b + 1) (by omega) hd (by omega)
      obtain ⟨h', C', k', g1, g2, g3⟩ := ih k (j + 1) h1 _ (by omega) hL1 o1 (by rw [List.length_set]; omega) hr2 (by rw [on1.1]; exact hm) (by omega)
      exact ⟨h', C', k', g1, by omega, g3⟩
theorem el_l1 (K : Nat) (la lb : List Int) (okA : Okl la) (okB : Okl lb) (sa : la.length ≤ 1000) (sb : lb.length ≤ 1000) :
    ∀ (q k i : Nat) (h : Hp) (n : Nat) (L : List Int), q + i = la.length → HO h 3 (.int .i64) n L → L.length = lb.length + 1 → RowOk (EM (Eqs la lb) la.length lb.length) i L (lb.length + 1) → n < h.nx → q * (2 * lb.length + 3) + 2 ≤ k →
    ∃ d : Nat, EditLeast_l1 K k (chars la) (chars lb) (.at n 0 (lb.length + 1)) ((i + 1 : Nat) : Int) h = some (d : Int) ∧ Dist (EM (Eqs la lb) la.length lb.length) la.length lb.length d := by
  intro q
  induction q with
  | zero =>
    intro k i h n L hq hL hll hr hn hk
    obtain ⟨k, rfl⟩ : ∃ q, k = q + 2 := ⟨k - 2, by omega⟩
    have hi : i = la.length := by omega
    subst hi
    obtain ⟨d, ed, dd, _⟩ := hr lb.length (by omega)
    refine ⟨d, ?_, dd⟩
    rw [EditLeast_l1_eq, chars_len, br_gt (by omega), EditLeast_j3_eq, chars_len, rlen0, chk_le (by omega), chk_lt (by omega), ld1 hL lb.length ed, obs]
  | succ q ih =>
    intro k i h n L hq hL hll hr hn hk
    have hmul : (q + 1) * (2 * lb.length + 3) = q * (2 * lb.length + 3) + (2 * lb.length + 3) := Nat.succ_mul ..
    obtain ⟨k, rfl⟩ : ∃ q, k = q + 2 := ⟨k - 2, by omega⟩
    have hN : HO (Hp.new h 3 (.p (.int .i64)) (List.replicate (lb.length + 1) (0 : Int))) 3 (.int .i64) h.nx (List.replicate (lb.length + 1) (0 : Int)) := HO.new h 3 (.int .i64) _
    have hL0 : HO (Hp.new h 3 (.p (.int .i64)) (List.replicate (lb.length + 1) (0 : Int))) 3 (.int .i64) n L := hL.push (by omega) _
    obtain ⟨h1, s1, o1, on1⟩ := wr1 (len := lb.length + 1) hN 0 (by rw [List.length_replicate]; omega) ((i + 1 : Nat) : Int)
    have hL1 : HO h1 3 (.int .i64) n L := (on1.2 n (by omega)).trans hL0
    have hr1 : RowOk (EM (Eqs la lb) la.length lb.length) (i + 1) ((List.replicate (lb.length + 1) (0 : Int)).set 0 ((i + 1 : Nat) : Int)) (0 + 1) :=
      RowOk.put (K := 0) (fun j hj => absurd hj (Nat.not_lt_zero j)) (i + 1) (by rw [List.length_replicate]; omega) (Dist.side (i + 1)) (by omega)
    have hx : h1.nx = h.nx + 1 := on1.1
    obtain ⟨h', C', k', g1, g2, g3, g4, g5, g6⟩ := el_l2 K la lb okA okB sa sb i (by omega) n h.nx (by omega) L hr lb.length k 0 h1 _ (by omega) hL1 o1 (by rw [List.length_set, List.length_replicate]) hr1 (by omega) (by omega)
    obtain ⟨d, f1, f2⟩ := ih k' (i + 1) h' h.nx C' (by omega) g3 g4 g5 g6 (by omega)
    refine ⟨d, ?_, f2⟩
    rw [EditLeast_l1_eq, chars_len, br_le (by omega), EditLeast_j2_eq, chars_len, wp1 lb.length (by omega), Int.toNat_natCast, rlen0, chk_le (by omega), chk_le (by omega), chk_lt (by omega), chk_le (by omega), chk_lt (by omega)]
    show Option.bind (Hp.st _ _ (radr 1 (Int.toNat ((0 : Nat) : Int)) (.at h.nx 0 (lb.length + 1))) _) (fun r0 => EditLeast_l2 K k (chars la) (chars lb) (.at n 0 (lb.length + 1)) ((i + 1 : Nat) : Int) (.at h.nx 0 (lb.length + 1)) ((0 + 1 : Nat) : Int) r0) = _
    rw [s1, obs, g1, f1]
theorem el_l0 (K : Nat) (la lb : List Int) (sb : lb.length ≤ 1000) (E : Int → Int → Prop) :
    ∀ (q k j : Nat) (h : Hp) (L : List Int), q + j = lb.length + 1 → HO h 3 (.int .i64) 0 L → L.length = lb.length + 1 → RowOk E 0 L j → 2 * q + 2 ≤ k → 0 < h.nx →
    ∃ h' L' k', EditLeast_l0 K k (chars la) (chars lb) (.at 0 0 (lb.length + 1)) ((lb.length + 1 : Nat) : Int) (j : Int) h = EditLeast_l1 K k' (chars la) (chars lb) (.at 0 0 (lb.length + 1)) ((0 + 1 : Nat) : Int) h' ∧ k ≤ k' + (2 * q + 2) ∧ HO h' 3 (.int .i64) 0 L' ∧ L'.length = lb.length + 1 ∧ RowOk E 0 L' (lb.length + 1) ∧ 0 < h'.nx := by
  intro q
  induction q with
  | zero =>
    intro k j h L hq hL hll hr hk hn
    obtain ⟨k, rfl⟩ : ∃ q, k = q + 2 := ⟨k - 2, by omega⟩
    have hj : j = lb.length + 1 := by omega
    subst hj
    refine ⟨h, L, k, ?_, by omega, hL, hll, hr, hn⟩
    rw [EditLeast_l0_eq, br_ge (by omega), EditLeast_j1_eq]
    rfl
  | succ q ih =>
    intro k j h L hq hL hll hr hk hn
    obtain ⟨k, rfl⟩ : ∃ q, k = q + 2 := ⟨k - 2, by omega⟩
    obtain ⟨h1, s1, o1, on1⟩ := wr1 (len := lb.length + 1) hL j (by omega) (j : Int)
    obtain ⟨h', L', k', g1, g2, g3⟩ := ih k (j + 1) h1 _ (by omega) o1 (by rw [List.length_set]; exact hll) (hr.put j (by omega) (Dist.top j) (by omega)) (by omega) (by rw [on1.1]; exact hn)
    refine ⟨h', L', k', ?_, by omega, g3⟩
    rw [EditLeast_l0_eq, br_lt (by omega), EditLeast_j0_eq, rlen0, chk_le (by omega), chk_lt (by omega), s1, obs, wp1 j (by omega), g1]
theorem EditLeast_ok (K : Nat) (la lb : List Int) (okA : Okl la) (okB : Okl lb) (sa : la.length ≤ 400) (sb : lb.length ≤ 400) (hK : 400000 ≤ K) :
    ∃ d : Nat, EditLeast K (chars la) (chars lb) = some (d : Int) ∧ Dist (EM (Eqs la lb) la.length lb.length) la.length lb.length d := by
  obtain ⟨K, rfl⟩ : ∃ m, K = m + 1 := ⟨K - 1, by omega⟩
  have hN : HO (Hp.new Hp.empty 3 (.p (.int .i64)) (List.replicate (lb.length + 1) (0 : Int))) 3 (.int .i64) 0 (List.replicate (lb.length + 1) (0 : Int)) := HO.new Hp.empty 3 (.int .i64) _
  obtain ⟨h', L', k', g1, g2, g3, g4, g5, g6⟩ := el_l0 K la lb (by omega) (EM (Eqs la lb) la.length lb.length) (lb.length + 1) K 0 _ _ (by omega) hN (by rw [List.length_replicate]) (fun j hj => absurd hj (Nat.not_lt_zero j)) (by omega) (Nat.lt_succ_self 0)
  have hmul : la.length * (2 * lb.length + 3) ≤ 400 * (2 * 400 + 3) := Nat.mul_le_mul sa (by omega)
  obtain ⟨d, f1, f2⟩ := el_l1 K la lb okA okB (by omega) (by omega) la.length k' 0 h' 0 L' (by omega) g3 g4 g5 g6 (by omega)
  refine ⟨d, ?_, f2⟩
  rw [EditLeast_eq, chars_len, wp1 lb.length (by omega), Int.toNat_natCast, rlen0, chk_le (by omega), chk_le (by omega), chk_lt (by omega)]
  exact g1.trans f1
/-- Equal texts: no edits. -/
theorem found_same (la : List Int) : Found la la [] := by
  have hE : ∀ j : Int, 0 ≤ j → j < la.length → EM (Eqs la la) la.length la.length j j := fun j h1 h2 => ⟨h1, h2, h1, h2, rfl⟩
  refine ⟨⟨by omega, by omega, fun j h1 h2 => ?_⟩, fun s hs _ => ?_⟩
  · rw [Int.zero_add]
    exact hE j h1 (by omega)
  · have key : ∀ n : Nat, n ≤ la.length → FP (EM (Eqs la la) la.length la.length) 0 (n : Int) (n : Int) := by
      intro n
      induction n with
      | zero => intro _; exact FP.zero
      | succ n ih => intro hn; exact (ih (by omega)).diag (hE n (by omega) (by omega))
    have := hs.2 0 (key la.length (Nat.le_refl _))
    show (0 : Int) = _
    omega
end Go.Proofs.Ytfglahmbnnkijaa.E
