import Derived.Test.YtaabfadjemmibaaDoorVJ
/- DiffCleanupSemantic: the last loop; how many edits a list has when it is merged. -/
set_option linter.unusedVariables false
set_option linter.unusedSimpArgs false
namespace Go.Proofs.YtaabfadjemmibaaDoor.E
open Go.Ev
theorem sem_last (K : Nat) (i0 : Int) (X : TS1.den) (hi0 : nth TS1 [X] i0 = X) (hK : 100000 ≤ K) (C : Nat) (hC : C ≤ 9500) : ∀ (d : Nat) (L : List M) (p k : Nat), 1 ≤ p → L.length ≤ p + d → 2 * L.length ≤ C + p → Typed L → Ascm L → (∀ m ∈ L, m.2.length ≤ 10000) → 5 * d + 2 ≤ k →
    ∃ L', Sim2 L L' ∧ (cnt L ≤ 1 → L' = L) ∧ wt L' ≤ wt L + d ∧ DiffCleanupSemantic_l1 K k i0 [X] (enc L) (p : Int) = some (enc L')
  | d, L, p, k, hp, hd, hc, tT, aT, sT, hk => by
    obtain ⟨k, rfl⟩ : ∃ m, k = m + 1 := ⟨k - 1, by omega⟩
    rw [DiffCleanupSemantic_l1_eq, enc_len]
    by_cases he : p < L.length
    · rw [br_lt (by omega)]
      match d, hd, hk with
      | 0, hd, hk => omega
      | d + 1, hd, hk =>
      obtain ⟨k, rfl⟩ : ∃ m, k = m + 3 := ⟨k - 3, by omega⟩
      obtain ⟨a, b, B, hA⟩ : ∃ a b B, L.drop (p - 1) = a :: b :: B := by
        match h : L.drop (p - 1) with
        | [] => have := congrArg List.length h; rw [List.length_drop] at this; simp at this; omega
        | [a] => have := congrArg List.length h; rw [List.length_drop] at this; simp at this; omega
        | a :: b :: B => exact ⟨a, b, B, rfl⟩
      have hL : L = L.take (p - 1) ++ a :: b :: B := by rw [← hA, List.take_append_drop]
      have lA : (L.take (p - 1)).length + 1 = p := by rw [List.length_take]; omega
      generalize L.take (p - 1) = A at hL lA
      subst hL
      subst lA
      have w0 : IntKind.i64.wrap (((A.length + 1 : Nat) : Int) - 1) = (A.length : Int) := by rw [wrap_id (by simp at hc; omega) (by simp at hc; omega)]; omega
      have hlM : (A ++ a :: b :: B).length = A.length + B.length + 2 := by simp; omega
      rw [hlM] at hd hc
      have w1 : IntKind.i64.wrap (((A.length + 1 : Nat) : Int) + 1) = ((A.length + 2 : Nat) : Int) := by rw [wrap_id (by omega) (by omega)]; omega
      have w2 : IntKind.i64.wrap (((A.length + 2 : Nat) : Int) + 1) = ((A.length + 3 : Nat) : Int) := by rw [wrap_id (by omega) (by omega)]; omega
      have hl : (enc (A ++ a :: b :: B)).length = A.length + B.length + 2 := by rw [enc_len]; exact hlM
      have e0 : nth TS2 (enc (A ++ a :: b :: B)) (A.length : Int) = (a.1, strOfRunes a.2) := nthA A _ a _ rfl
      have e1 : nth TS2 (enc (A ++ a :: b :: B)) ((A.length + 1 : Nat) : Int) = (b.1, strOfRunes b.2) := by
        have := nthA (A ++ [a]) B b (A.length + 1) (by simp)
        simpa using this
      have skip : ∀ (j k' : Nat), A.length + 2 ≤ j → 5 * d + 2 ≤ k' → ∃ L', Sim2 (A ++ a :: b :: B) L' ∧ (cnt (A ++ a :: b :: B) ≤ 1 → L' = A ++ a :: b :: B) ∧ wt L' ≤ wt (A ++ a :: b :: B) + (d + 1) ∧ DiffCleanupSemantic_l1 K k' i0 [X] (enc (A ++ a :: b :: B)) (j : Int) = some (enc L') := by
        intro j k' hj hk'
        obtain ⟨L', g1, g2, g3, g4⟩ := sem_last K i0 X hi0 hK C hC d _ j k' (by omega) (by rw [hlM]; omega) (by rw [hlM]; omega) tT aT sT hk'
        exact ⟨L', g1, g2, by omega, g4⟩
      rw [DiffCleanupSemantic_j6_eq, w0, hl, e0, e1, chk_le (by omega), chk_lt (by omega)]
      simp only []
      have j7f : ∃ L', Sim2 (A ++ a :: b :: B) L' ∧ (cnt (A ++ a :: b :: B) ≤ 1 → L' = A ++ a :: b :: B) ∧ wt L' ≤ wt (A ++ a :: b :: B) + (d + 1) ∧ DiffCleanupSemantic_j7 K (k + 2) i0 [X] (enc (A ++ a :: b :: B)) ((A.length + 1 : Nat) : Int) false = some (enc L') := by
        rw [DiffCleanupSemantic_j7_eq, br_false, w1]
        exact skip (A.length + 2) (k + 1) (Nat.le_refl _) (by omega)
      by_cases ha : a.1 = -1
      · rw [br_eq ha, chk_le (by omega), chk_lt (by omega)]
        by_cases hb : b.1 = 1
        · rw [eqI_t hb]
          obtain ⟨ta, x⟩ := a
          obtain ⟨tb, y⟩ := b
          have ha : ta = -1 := ha
          have hb : tb = 1 := hb
          subst ha; subst hb
          have ax := aT (-1, x) (by simp)
          have ay := aT (1, y) (by simp)
          have sx := sT (-1, x) (by simp)
          have sy := sT (1, y) (by simp)
          simp only [] at ax ay sx sy
          obtain ⟨o1, p1, p2, p3, p4⟩ := overlap_ok K X ax ay sx sy hK
          obtain ⟨o2, q1, q2, q3, q4⟩ := overlap_ok K X ay ax sy sx hK
          have hcnt : ¬ cnt (A ++ (-1, x) :: (1, y) :: B) ≤ 1 := by rw [cnt_app]; simp [cnt]; omega
          rw [DiffCleanupSemantic_j7_eq, br_true, w0, hl, e0, e1, hi0]
          simp only []
          rw [chk_le (by omega), chk_lt (by omega), chk_le (by omega), chk_lt (by omega), p4, q4]
          simp only [Option.bind_some]
          rw [count_ok K ax.okl (by omega) (by omega), count_ok K ay.okl (by omega) (by omega)]
          simp only [Option.bind_some]
          rw [half_ok _ (by omega), half_ok _ (by omega)]
          have j8 : ∀ c : Bool, ∃ L', Sim2 (A ++ (-1, x) :: (1, y) :: B) L' ∧ (cnt (A ++ (-1, x) :: (1, y) :: B) ≤ 1 → L' = A ++ (-1, x) :: (1, y) :: B) ∧ wt L' ≤ wt (A ++ (-1, x) :: (1, y) :: B) + (d + 1) ∧ DiffCleanupSemantic_j8 K (k + 1) i0 [X] (enc (A ++ (-1, x) :: (1, y) :: B)) ((A.length + 1 : Nat) : Int) (strOfRunes x) (strOfRunes y) (o1 : Int) c = some (enc L') := by
            intro c
            cases c with
            | false =>
              rw [DiffCleanupSemantic_j8_eq, br_false, w1, w2]
              exact skip (A.length + 3) k (by omega) (by omega)
            | true =>
              rw [j8_true K k i0 [X] A B x y o1 ax ay p1 p2 sx sy (by omega) (by omega)]
              have hs := sim2_of A B x y (x.take (x.length - o1)) (y.take o1) (y.drop o1) (-1) 1 (.inl ⟨rfl, rfl, by rw [← p3, List.take_append_drop], List.take_append_drop _ _⟩)
              obtain ⟨L', g1, g2, g5, g3⟩ := sem_last K i0 X hi0 hK C hC d _ (A.length + 4) k (by omega) (by simp; omega) (by simp; omega) (hs.typed tT) (hs.asc aT) (hs.small sT) (by omega)
              exact ⟨L', hs.trans g1, fun h => absurd h hcnt, (by rw [wt_app] at g5 ⊢; simp only [wt, List.length_take, List.length_drop] at g5 ⊢; omega), g3⟩
          have j9 : ∀ c : Bool, ∃ L', Sim2 (A ++ (-1, x) :: (1, y) :: B) L' ∧ (cnt (A ++ (-1, x) :: (1, y) :: B) ≤ 1 → L' = A ++ (-1, x) :: (1, y) :: B) ∧ wt L' ≤ wt (A ++ (-1, x) :: (1, y) :: B) + (d + 1) ∧ DiffCleanupSemantic_j9 K (k + 1) i0 [X] (enc (A ++ (-1, x) :: (1, y) :: B)) ((A.length + 1 : Nat) : Int) (strOfRunes x) (strOfRunes y) (o2 : Int) c = some (enc L') := by
            intro c
            cases c with
            | false =>
              rw [DiffCleanupSemantic_j9_eq, br_false, w1, w2]
              exact skip (A.length + 3) k (by omega) (by omega)
            | true =>
              rw [j9_true K k i0 [X] A B x y o2 ax ay q2 q1 sx sy (by omega) (by omega)]
              have hs := sim2_of A B x y (y.take (y.length - o2)) (x.take o2) (x.drop o2) 1 (-1) (.inr ⟨rfl, rfl, List.take_append_drop _ _, by rw [← q3, List.take_append_drop]⟩)
              obtain ⟨L', g1, g2, g5, g3⟩ := sem_last K i0 X hi0 hK C hC d _ (A.length + 4) k (by omega) (by simp; omega) (by simp; omega) (hs.typed tT) (hs.asc aT) (hs.small sT) (by omega)
              exact ⟨L', hs.trans g1, fun h => absurd h hcnt, (by rw [wt_app] at g5 ⊢; simp only [wt, List.length_take, List.length_drop] at g5 ⊢; omega), g3⟩
          have ct : ∀ {α : Type} (o : Option α), chk true o = o := fun _ => rfl
          rw [ct, ct, ct, ct]
          by_cases ho : (o2 : Int) ≤ (o1 : Int)
          · rw [br_le ho]
            generalize (foI .gt (i2fI (o1 : Int)) _ || foI .eq (i2fI (o1 : Int)) _) = c1
            cases c1 with
            | true => rw [br_true]; exact j8 true
            | false => rw [br_false]; exact j8 _
          · rw [br_gt (by omega)]
            generalize (foI .gt (i2fI (o2 : Int)) _ || foI .eq (i2fI (o2 : Int)) _) = c1
            cases c1 with
            | true => rw [br_true]; exact j9 true
            | false => rw [br_false]; exact j9 _
        · rw [eqI_f hb]; exact j7f
      · rw [br_ne ha]; exact j7f
    · rw [br_ge (by omega)]
      exact ⟨L, Sim2.refl _, fun _ => rfl, by omega, rfl⟩
/-! ### edits of a list when it is merged -/
def b2 (b : Bool) : Nat := if b then 1 else 0
def cRg : Bool → Bool → List M → Nat
  | d, i, [] => b2 d + b2 i
  | d, i, m :: l => if m.1 = 0 then b2 d + b2 i + cRg false false l else cRg (d || decide (m.1 = -1)) (i || decide (m.1 = 1)) l
def cR (l : List M) : Nat := cRg false false l
theorem b2_le (b : Bool) : b2 b ≤ 1 := by cases b <;> simp [b2]
theorem b2_or (a b : Bool) : b2 (a || b) ≤ b2 a + b2 b ∧ b2 a ≤ b2 (a || b) := by cases a <;> cases b <;> simp [b2]
theorem cRg_cnt : ∀ (l : List M) (d i : Bool), Typed l → cRg d i l ≤ b2 d + b2 i + cnt l
  | [], _, _, _ => by simp [cRg, cnt]
  | m :: l, d, i, ht => by
    have h0 := ht m (List.mem_cons_self ..)
    unfold cRg
    by_cases hm : m.1 = 0
    · rw [if_pos hm]
      have := cRg_cnt l false false ht.tail
      simp only [cnt, if_pos hm]
      simp only [b2] at this ⊢
      simp at this
      omega
    · rw [if_neg hm]
      have := cRg_cnt l (d || decide (m.1 = -1)) (i || decide (m.1 = 1)) ht.tail
      simp only [cnt, if_neg hm]
      rcases h0.resolve_left hm with h | h
      · have e : decide (m.1 = -1) = false := decide_eq_false (by omega)
        rw [e, Bool.or_false] at this
        have h2 := b2_or i (decide (m.1 = 1))
        have h3 := b2_le (decide (m.1 = 1))
        rw [e, Bool.or_false]
        omega
      · have e : decide (m.1 = 1) = false := decide_eq_false (by omega)
        rw [e, Bool.or_false] at this
        have h2 := b2_or d (decide (m.1 = -1))
        have h3 := b2_le (decide (m.1 = -1))
        rw [e, Bool.or_false]
        omega
theorem cRg_full : ∀ (l : List M) (d i : Bool), cRg true true l + (b2 d + b2 i) ≤ cRg d i l + 2
  | [], d, i => by simp [cRg, b2]; omega
  | m :: l, d, i => by
    unfold cRg
    by_cases hm : m.1 = 0
    · rw [if_pos hm, if_pos hm]
      simp [b2]
      omega
    · rw [if_neg hm, if_neg hm]
      have := cRg_full l (d || decide (m.1 = -1)) (i || decide (m.1 = 1))
      have h1 := b2_or d (decide (m.1 = -1))
      have h2 := b2_or i (decide (m.1 = 1))
      simp only [Bool.true_or]
      omega
/-- An equality between edits becomes an edit: the list has not more of them when it is merged. -/
theorem cRg_elim (x q : List Int) (B : List M) (hB : ∃ m B', B = m :: B' ∧ (m.1 = 1 ∨ m.1 = -1)) : ∀ (A : List M) (d i : Bool), ((A = [] ∧ 1 ≤ b2 d + b2 i) ∨ ∃ A0 m, A = A0 ++ [m] ∧ (m.1 = 1 ∨ m.1 = -1)) → cRg d i (A ++ (-1, q) :: (1, q) :: B) ≤ cRg d i (A ++ (0, x) :: B) ∧ 2 ≤ cRg d i (A ++ (0, x) :: B)
  | [], d, i, h => by
    have h1 : 1 ≤ b2 d + b2 i := by
      rcases h with ⟨_, h⟩ | ⟨A0, m, h, _⟩
      · exact h
      · have := congrArg List.length h
        simp at this
    obtain ⟨m, B', rfl, hm⟩ := hB
    have e1 : cRg d i ([] ++ (-1, q) :: (1, q) :: m :: B') = cRg true true B' := by
      have hm0 : ¬ m.1 = 0 := by omega
      simp [cRg, hm0]
    have e2 : cRg d i ([] ++ (0, x) :: m :: B') = b2 d + b2 i + cRg (decide (m.1 = -1)) (decide (m.1 = 1)) B' := by
      have hm0 : ¬ m.1 = 0 := by omega
      simp [cRg, hm0]
    have e3 : b2 (decide (m.1 = -1)) + b2 (decide (m.1 = 1)) = 1 := by
      rcases hm with hm | hm <;> simp [b2, hm]
    have := cRg_full B' (decide (m.1 = -1)) (decide (m.1 = 1))
    have low : ∀ (l : List M) (d i : Bool), b2 d + b2 i ≤ cRg d i l := by
      intro l
      induction l with
      | nil => intro d i; exact Nat.le_refl _
      | cons m l ih =>
        intro d i
        unfold cRg
        split
        · omega
        · have := ih (d || decide (m.1 = -1)) (i || decide (m.1 = 1))
          have h1 := b2_or d (decide (m.1 = -1))
          have h2 := b2_or i (decide (m.1 = 1))
          omega
    have h5 := low B' (decide (m.1 = -1)) (decide (m.1 = 1))
    rw [e1, e2]
    omega
  | a :: A, d, i, h => by
    have hA : ∃ A0 m, a :: A = A0 ++ [m] ∧ (m.1 = 1 ∨ m.1 = -1) := by
      rcases h with ⟨h, _⟩ | h
      · cases h
      · exact h
    rw [List.cons_append, List.cons_append]
    unfold cRg
    by_cases ha : a.1 = 0
    · rw [if_pos ha, if_pos ha]
      have ih := cRg_elim x q B hB A false false (.inr (by
        obtain ⟨A0, m, h1, h2⟩ := hA
        cases A0 with
        | nil => injection h1 with h3 h4; subst h3; omega
        | cons z A0 => injection h1 with h3 h4; exact ⟨A0, m, h4, h2⟩))
      omega
    · rw [if_neg ha, if_neg ha]
      refine cRg_elim x q B hB A _ _ ?_
      obtain ⟨A0, m, h1, h2⟩ := hA
      cases A0 with
      | nil =>
        injection h1 with h3 h4
        subst h3
        refine .inl ⟨h4, ?_⟩
        have l1 := b2_or d (decide (a.1 = -1))
        have l2 := b2_or i (decide (a.1 = 1))
        rcases h2 with h2 | h2
        · rw [show decide (a.1 = 1) = true from decide_eq_true h2, Bool.or_true]; simp [b2]
        · rw [show decide (a.1 = -1) = true from decide_eq_true h2, Bool.or_true]; simp [b2]
      | cons z A0 => injection h1 with h3 h4; exact .inr ⟨A0, m, h4, h2⟩
/-- Merging. -/
theorem cnt_push (D : Dn) (P : List Int) : cnt (toL (pushP D P)) = cnt (toL D) := by
  unfold pushP
  split
  · rfl
  · match D with
    | none => rfl
    | some (D0, e) => simp [toL, cnt_app, cnt]
theorem cnt_step (D : Dn) (R : List M) (x : List Int) (hR : Edits R) : cnt (toL (stepE D R x)) = cnt (toL D) + (b2 (decide (cD R ≠ 0)) + b2 (decide (cI R ≠ 0))) := by
  by_cases h2 : 2 ≤ R.length
  · rw [show stepE D R x = some (toL (pushP D (nrm R).1) ++ (nrm R).2.1, (nrm R).2.2 ++ x) from if_pos h2]
    obtain ⟨d, i, h1, _⟩ := nrm_spec R
    have hc := cDI hR
    have e : cnt (nrm R).2.1 = b2 (decide (cD R ≠ 0)) + b2 (decide (cI R ≠ 0)) := by
      rw [h1]
      unfold mk
      by_cases hc0 : cD R = 0
      · have : cI R ≠ 0 := by omega
        simp [hc0, this, cnt, b2]
      · by_cases hn0 : cI R = 0
        · simp [hc0, hn0, cnt, b2]
        · simp [hc0, hn0, cnt, b2]
    rw [toL_some, cnt_app, cnt_app, cnt_push, e]
    simp [cnt]
  · rw [show stepE D R x = one D R x from if_neg h2]
    match D, R, hR, h2 with
    | some (D0, e), [], _, _ => simp [one, toL, cnt_app, cnt, cD, cI, b2]
    | none, [], _, _ => simp [one, toL, cnt, cD, cI, b2]
    | D, [m], hR, _ =>
      rw [one_ne D [m] x (by simp), toL_some, cnt_app, cnt_app]
      rcases hR m (by simp) with h | h <;> simp [cnt, cD, cI, b2, h]
    | D, _ :: _ :: _, _, h2 => exact absurd (by simp) h2
theorem cnt_pass1 : ∀ (T : List M) (D : Dn) (R : List M), Edits R → Typed T → cnt (pass1 D R (T ++ [(0, [])])) = cnt (toL D) + cRg (decide (cD R ≠ 0)) (decide (cI R ≠ 0)) T
  | [], D, R, hR, _ => by
    show cnt (pass1 (stepE D R []) [] []) = _
    rw [pass1, List.append_nil, cnt_step D R [] hR]
    rfl
  | m :: T, D, R, hR, tT => by
    rw [List.cons_append, pass1]
    unfold cRg
    by_cases hm : m.1 = 0
    · rw [if_pos hm, if_pos hm, cnt_pass1 T _ [] Edits.nil tT.tail, cnt_step D R _ hR]
      simp only [cD, cI]
      simp
      omega
    · rw [if_neg hm, if_neg hm, cnt_pass1 T D _ (hR.snoc ((tT m (List.mem_cons_self ..)).resolve_left hm)) tT.tail, cD_snoc, cI_snoc]
      congr 2
      · by_cases h : m.1 = -1 <;> by_cases h2 : cD R = 0 <;> simp [h, h2]
      · by_cases h : m.1 = 1 <;> by_cases h2 : cI R = 0 <;> simp [h, h2]
theorem cnt_p1 (l : List M) (tT : Typed l) (oT : Okm l) : cnt (p1 l) = cR l := by
  obtain ⟨D0, e, h1, _⟩ := p1_spec l tT oT
  have h2 := cnt_pass1 l none [] Edits.nil tT
  rw [h1, cnt_app] at h2
  unfold p1
  rw [h1, cutEnd_snoc]
  have h3 : cnt (toL none) + cRg (decide (cD [] ≠ 0)) (decide (cI [] ≠ 0)) l = cR l := by simp [toL, cnt, cD, cI, cR]
  rw [h3] at h2
  simp only [cnt] at h2
  split
  · simpa using h2
  · rw [cnt_app]; simpa [cnt] using h2
theorem cnt_dcm : ∀ (n : Nat) (l : List M), Okm l → Typed l → mu l < n → cnt (dcm n l) ≤ cR l
  | 0, _, _, _, h => by omega
  | n + 1, l, oT, tT, hm => by
    obtain ⟨_, _, _, _, _, o1, t1, _, _, m1⟩ := p1_spec l tT oT
    obtain ⟨_, o2, t2, _, m2, _⟩ := p2_spec _ (p1 l) (Nat.le_refl _)
    have h2 := (p2_ed _ (p1 l) (Nat.le_refl _)).2
    have h1 := cnt_p1 l tT oT
    rw [dcm]
    split
    · rename_i hf
      rw [if_pos hf] at m2
      have h3 := cnt_dcm n (p2 (p1 l)).1 (o2 o1) (t2 t1) (by omega)
      have h4 := cRg_cnt (p2 (p1 l)).1 false false (t2 t1)
      simp only [b2] at h4
      unfold cR at h3
      simp at h4
      omega
    · omega
end Go.Proofs.YtaabfadjemmibaaDoor.E
