import Derived.Test.YtaabfadjemmibaaDoorVL
/- DiffCleanupSemantic: the whole. -/
set_option linter.unusedVariables false
set_option linter.unusedSimpArgs false
namespace Go.Proofs.YtaabfadjemmibaaDoor.E
open Go.Ev
theorem Ne0.left {a b : List M} (h : Ne0 (a ++ b)) : Ne0 a := fun m hm => h m (by simp [hm])
theorem Ne0.right {a b : List M} (h : Ne0 (a ++ b)) : Ne0 b := fun m hm => h m (by simp [hm])
theorem Ne0.app {a b : List M} (ha : Ne0 a) (hb : Ne0 b) : Ne0 (a ++ b) := fun m hm => (List.mem_append.1 hm).elim (ha m) (hb m)
theorem Ne0.cons {m : M} {a : List M} (hm : m.1 = 0 → m.2 ≠ []) (ha : Ne0 a) : Ne0 (m :: a) := fun x hx => (List.mem_cons.1 hx).elim (fun e => e ▸ hm) (ha x)
theorem Ne0.tail {m : M} {a : List M} (h : Ne0 (m :: a)) : Ne0 a := fun x hx => h x (List.mem_cons_of_mem _ hx)
theorem Ne0.nil : Ne0 [] := fun m h => by cases h
theorem Edits.ne0 {R : List M} (h : Edits R) : Ne0 R := fun m hm h0 => by
  have := h m hm
  omega
theorem ne0_push {D : Dn} (h : Ne0 (toL D)) (P : List Int) : Ne0 (toL (pushP D P)) := by
  unfold pushP
  split
  · exact h
  · rename_i hP
    match D, h with
    | none, _ =>
      intro m hm _
      have : m = (0, P) := by simpa [toL] using hm
      rw [this]
      exact hP
    | some (D0, e), h =>
      rw [toL_some] at h ⊢
      refine h.left.app fun m hm _ => ?_
      have : m = (0, e ++ P) := by simpa using hm
      rw [this]
      intro h0
      exact hP (List.append_eq_nil_iff.1 h0).2
theorem ne0_step {D : Dn} {R : List M} {x : List Int} {D0 : List M} {e : List Int} (hs : stepE D R x = some (D0, e)) (hD : Ne0 (toL D)) (hR : Edits R) : Ne0 D0 ∧ (x ≠ [] → e ≠ []) := by
  by_cases h2 : 2 ≤ R.length
  · rw [show stepE D R x = some (toL (pushP D (nrm R).1) ++ (nrm R).2.1, (nrm R).2.2 ++ x) from if_pos h2] at hs
    injection hs with hs
    injection hs with h3 h4
    obtain ⟨d, i, h1, _⟩ := nrm_spec R
    rw [← h3, ← h4]
    exact ⟨(ne0_push hD _).app (by rw [h1]; exact (mk_edits _ _ _ _).ne0), fun hx h0 => hx (List.append_eq_nil_iff.1 h0).2⟩
  · rw [show stepE D R x = one D R x from if_neg h2] at hs
    match D, R, hD, hR, hs with
    | some (D1, e1), [], hD, _, hs =>
      injection hs with hs
      injection hs with h3 h4
      rw [← h3, ← h4]
      exact ⟨hD.left, fun hx h0 => hx (List.append_eq_nil_iff.1 h0).2⟩
    | none, [], _, _, hs =>
      injection hs with hs
      injection hs with h3 h4
      rw [← h3, ← h4]
      exact ⟨Ne0.nil, id⟩
    | D, m :: R, hD, hR, hs =>
      rw [one_ne D (m :: R) x (by simp)] at hs
      injection hs with hs
      injection hs with h3 h4
      rw [← h3, ← h4]
      exact ⟨hD.app hR.ne0, id⟩
theorem ne0_pass1 : ∀ (T : List M) (D : Dn) (R : List M), Edits R → Typed T → Ne0 (toL D) → Ne0 T → ∃ D0 e, pass1 D R (T ++ [(0, [])]) = D0 ++ [(0, e)] ∧ Ne0 D0
  | [], D, R, hR, _, hD, _ => by
    obtain ⟨D0, e, h⟩ := step_some D R []
    refine ⟨D0, e, ?_, (ne0_step h hD hR).1⟩
    show pass1 (stepE D R []) [] [] = _
    rw [h]
    simp [pass1, toL]
  | m :: T, D, R, hR, tT, hD, hT => by
    rw [List.cons_append, pass1]
    by_cases hm : m.1 = 0
    · rw [if_pos hm]
      obtain ⟨D0, e, h⟩ := step_some D R m.2
      obtain ⟨h1, h2⟩ := ne0_step h hD hR
      refine ne0_pass1 T _ [] Edits.nil tT.tail ?_ hT.tail
      rw [h, toL_some]
      exact h1.app (Ne0.cons (fun _ => h2 (hT m (List.mem_cons_self ..) hm)) Ne0.nil)
    · rw [if_neg hm]
      exact ne0_pass1 T D _ (hR.snoc ((tT m (List.mem_cons_self ..)).resolve_left hm)) tT.tail hD hT.tail
theorem ne0_p1 (l : List M) (tT : Typed l) (h : Ne0 l) : Ne0 (p1 l) := by
  obtain ⟨D0, e, h1, h2⟩ := ne0_pass1 l none [] Edits.nil tT Ne0.nil h
  unfold p1
  rw [h1, cutEnd_snoc]
  split
  · exact h2
  · rename_i he
    exact h2.app (Ne0.cons (fun _ => he) Ne0.nil)
theorem ne0_p2 : ∀ (n : Nat) (l : List M), l.length ≤ n → Ne0 l → Ne0 (p2 l).1
  | n, l, hl, hN => by
    by_cases h3 : l.length ≤ 2
    · rw [p2_short l h3]; exact hN
    · obtain ⟨a, b, c, B, rfl⟩ := three h3
      simp only [List.length_cons] at hl
      obtain ⟨n, rfl⟩ : ∃ m, n = m + 1 := ⟨n - 1, by omega⟩
      have skip : Ne0 (a :: (p2 (b :: c :: B)).1) := Ne0.cons (hN a (List.mem_cons_self ..)) (ne0_p2 n (b :: c :: B) (by simp; omega) hN.tail)
      by_cases hac : a.1 = 0 ∧ c.1 = 0
      · have ha := hN a (by simp) hac.1
        have hc := hN c (by simp) hac.2
        by_cases hs : a.2 <:+ b.2
        · obtain ⟨q, hq⟩ := hs
          have hp : p2 (a :: b :: c :: B) = ((b.1, a.2 ++ q) :: (p2 ((c.1, a.2 ++ c.2) :: B)).1, true) := by
            rw [p2, if_pos hac, if_pos ⟨q, hq⟩, ← hq]
            simp
          rw [hp]
          exact Ne0.cons (fun _ h0 => ha (List.append_eq_nil_iff.1 h0).1) (ne0_p2 n _ (by simp; omega) (Ne0.cons (fun _ h0 => ha (List.append_eq_nil_iff.1 h0).1) hN.tail.tail.tail))
        · by_cases hpf : c.2 <+: b.2
          · obtain ⟨q, hq⟩ := hpf
            have hp : p2 (a :: b :: c :: B) = ((a.1, a.2 ++ c.2) :: (p2 ((b.1, q ++ c.2) :: B)).1, true) := by
              rw [p2, if_pos hac, if_neg hs, if_pos ⟨q, hq⟩, ← hq]
              simp
            rw [hp]
            exact Ne0.cons (fun _ h0 => ha (List.append_eq_nil_iff.1 h0).1) (ne0_p2 n _ (by simp; omega) (Ne0.cons (fun _ h0 => hc (List.append_eq_nil_iff.1 h0).2) hN.tail.tail.tail))
          · have hp : p2 (a :: b :: c :: B) = (a :: (p2 (b :: c :: B)).1, (p2 (b :: c :: B)).2) := by rw [p2, if_pos hac, if_neg hs, if_neg hpf]
            rw [hp]
            exact skip
      · have hp : p2 (a :: b :: c :: B) = (a :: (p2 (b :: c :: B)).1, (p2 (b :: c :: B)).2) := by rw [p2, if_neg hac]
        rw [hp]
        exact skip
termination_by n => n
theorem ne0_dcm : ∀ (n : Nat) (l : List M), Okm l → Typed l → Ne0 l → Ne0 (dcm n l)
  | 0, _, _, _, h => h
  | n + 1, l, oT, tT, h => by
    obtain ⟨_, _, _, _, _, o1, t1, _, _, _⟩ := p1_spec l tT oT
    obtain ⟨_, o2, t2, _, _, _⟩ := p2_spec _ (p1 l) (Nat.le_refl _)
    have h1 := ne0_p2 _ (p1 l) (Nat.le_refl _) (ne0_p1 l tT h)
    rw [dcm]
    split
    · exact ne0_dcm n _ (o2 o1) (t2 t1) h1
    · exact h1
theorem asc_side {l : List M} (h : Ascm l) (z : Int) : Asc (side z l) := by
  induction l with
  | nil => exact Asc.nil
  | cons m l ih =>
    have ih := ih (fun x hx => h x (List.mem_cons_of_mem _ hx))
    unfold side
    split
    · simpa using ih
    · exact (h m (List.mem_cons_self ..)).app ih
theorem asc_of_side : ∀ {l : List M}, Typed l → Asc (side 1 l) → Asc (side (-1) l) → Ascm l
  | [], _, _, _ => fun m h => by cases h
  | m :: l, tT, h1, h2 => by
    have k1 : Asc (side 1 l) := by
      unfold side at h1
      split at h1
      · simpa using h1
      · exact h1.right
    have k2 : Asc (side (-1) l) := by
      unfold side at h2
      split at h2
      · simpa using h2
      · exact h2.right
    have ih := asc_of_side tT.tail k1 k2
    intro x hx
    rcases List.mem_cons.1 hx with rfl | hx
    · by_cases hm : x.1 = 1
      · unfold side at h2
        rw [if_neg (by omega)] at h2
        exact h2.left
      · unfold side at h1
        rw [if_neg hm] at h1
        exact h1.left
    · exact ih x hx
theorem cnt_shp : ∀ l : List M, cnt l = (shp l).length
  | [] => rfl
  | m :: l => by
    have := cnt_shp l
    simp only [cnt, shp]
    split <;> simp [this] <;> omega
structure SemOk (L L' : List M) : Prop where
  side : ∀ z, z = 1 ∨ z = -1 → side z L' = side z L
  typed : Typed L'
  asc : Ascm L'
  cn : cnt L' ≤ cnt L
  sh : cnt L ≤ 1 → shp L' = shp L
  wl : wt L' ≤ 20000
theorem Semantic_ok (K : Nat) (X : TS1.den) (L : List M) (tT : Typed L) (aT : Ascm L) (nT : Ne0 L) (hw : wt L ≤ 1100) (hK : 1000000000 ≤ K) : ∃ L', SemOk L L' ∧ DiffCleanupSemantic K X (enc L) = some (enc L') := by
  obtain ⟨K, rfl⟩ : ∃ m, K = m + 1 := ⟨K - 1, by omega⟩
  have hwl := wt_len L
  have hwe := weq_le L
  have hnz := nz_le L
  have I : Inv [] [] [] 0 0 0 0 := ⟨List.Pairwise.nil, fun e he => (by cases he), fun h => absurd rfl h, fun h => absurd h (by simp), by simp [wt]⟩
  obtain ⟨L1, k1, f1, g1, g2, g3, g4⟩ := sem_first K 0 [X] 2200 (by omega) (by omega) L.length L.length [] L [] [] 0 0 0 0 false K hnz (Nat.le_refl _) I (by omega) tT aT (by simp only [List.nil_append]; omega) (by omega)
  simp only [List.nil_append] at g1 g2 g3 g4
  rw [DiffCleanupSemantic_eq, enc_len, chk_le (by omega), chk_le (by omega), chk_lt (by omega)]
  have e0 : List.replicate (Int.toNat 0) (0 : Int) = ints [] := rfl
  rw [e0]
  have hk1 : 900000000 ≤ k1 := by omega
  obtain ⟨k1, rfl⟩ : ∃ m, k1 = m + 2 := ⟨k1 - 2, by omega⟩
  have hx0 : nth TS1 [X] 0 = X := rfl
  -- what follows the merging
  have fin : ∀ (L2 : List M), Typed L2 → Ascm L2 → Ne0 L2 → wt L2 ≤ 4500 → ∃ L', (∀ z, z = 1 ∨ z = -1 → side z L' = side z L2) ∧ Typed L' ∧ Ascm L' ∧ cnt L' = cnt L2 ∧ (cnt L2 ≤ 1 → shp L' = shp L2) ∧ wt L' ≤ 20000 ∧ DiffCleanupSemantic_j3 K (k1 + 1) 0 [X] (enc L2) = some (enc L') := by
    intro L2 t2 a2 n2 w2
    have hm1 : (3 * wt L2 + 30) * (wt L2 + 1) ≤ 13530 * 4501 := Nat.mul_le_mul (by omega) (by omega)
    obtain ⟨L3, s3, e3⟩ := Lossless_ok K X L2 t2 a2 n2 (by omega) (by omega)
    have w3 := s3.wt
    have l3 := wt_len L3
    have sm : ∀ m ∈ L3, m.2.length ≤ 10000 := fun m hm => by have := wt_le hm; omega
    obtain ⟨L4, s4, r4, w4, e4⟩ := sem_last K 0 X rfl (by omega) 9000 (by omega) L3.length L3 1 k1 (by omega) (by omega) (by omega) (s3.typed t2) (s3.asc a2) sm (by omega)
    have c3 : cnt L3 = cnt L2 := by rw [cnt_shp, cnt_shp, s3.shp]
    refine ⟨L4, fun z hz => by rw [s4.side z hz, s3.side z (by omega)], s4.typed (s3.typed t2), s4.asc (s3.asc a2), by rw [s4.cnt, c3], fun h => ?_, by omega, ?_⟩
    · rw [r4 (by omega), s3.shp]
    · rw [DiffCleanupSemantic_j3_eq, hx0, e3]
      exact e4
  have hpot := g2.pot
  have t1 := g2.typed tT
  have a1 := g2.asc aT
  have n1 := g2.ne0 nT
  have hrun := g2.runs
  have hcR : cR L ≤ cnt L := by
    have := cRg_cnt L false false tT
    simpa [b2, cR] using this
  have e1 : DiffCleanupSemantic_l0 K K 0 [X] (enc L) false (ints []) (⟨#[]⟩ : ByteArray) 0 0 0 0 0 = DiffCleanupSemantic_j1 K (k1 + 2) 0 [X] (enc L1) f1 := g4
  rw [e1, DiffCleanupSemantic_j1_eq]
  cases f1 with
  | false =>
    obtain ⟨h, rfl⟩ | ⟨h, _⟩ := g3
    · obtain ⟨L', h1, h2, h3, h4, h5, h6, h7⟩ := fin L1 tT aT nT (by omega)
      exact ⟨L', ⟨h1, h2, h3, by omega, h5, h6⟩, by rw [br_false]; exact h7⟩
    · cases h
  | true =>
    obtain ⟨h, _⟩ | ⟨_, h2R⟩ := g3
    · cases h
    have hmu : mu L1 ≤ wt L1 := by
      have : ∀ l : List M, mu l ≤ wt l := by
        intro l
        induction l with
        | nil => exact Nat.le_refl _
        | cons m l ih => simp only [mu, wt]; split <;> omega
      exact this L1
    have hd := dcm_ok (mu L1 + 1) L1 4400 K X (by omega) a1.okm t1 (by omega) (by omega) (by omega)
    obtain ⟨l', e2, _, o', t', s', w', _⟩ := dcm_spec (mu L1 + 1) L1 (by omega) a1.okm t1
    obtain ⟨_, _, _, _, _, o2, t2, _, _, _⟩ := p1_spec l' t' o'
    have a2 : Ascm (p1 l') := asc_of_side t2 (by rw [s' 1 (.inl rfl)]; exact asc_side a1 1) (by rw [s' (-1) (.inr rfl)]; exact asc_side a1 (-1))
    have n2 := ne0_dcm (mu L1 + 1) L1 a1.okm t1 n1
    have c2 := cnt_dcm (mu L1 + 1) L1 a1.okm t1 (by omega)
    rw [e2] at n2 c2 hd
    obtain ⟨L', h1, h2, h3, h4, h5, h6, h7⟩ := fin (p1 l') t2 a2 n2 (by omega)
    refine ⟨L', ⟨fun z hz => by rw [h1 z hz, s' z hz, g2.side z hz], h2, h3, by omega, fun h => by omega, h6⟩, ?_⟩
    rw [br_true, hx0, hd]
    exact h7
theorem CleanSemantic_ok (K : Nat) (L : List M) (tT : Typed L) (aT : Ascm L) (nT : Ne0 L) (hw : wt L ≤ 1100) (hK : 1000000001 ≤ K) : ∃ L', SemOk L L' ∧ CleanSemantic K (enc L) = some (enc L') := by
  obtain ⟨K, rfl⟩ : ∃ m, K = m + 1 := ⟨K - 1, by omega⟩
  have hwl := wt_len L
  obtain ⟨X, hX⟩ := plain_ok K (by omega)
  obtain ⟨L', h1, h2⟩ := Semantic_ok K X L tT aT nT hw (by omega)
  have hw' := h1.wl
  have hwl' := wt_len L'
  refine ⟨L', h1, ?_⟩
  rw [CleanSemantic_eq, hX]
  simp only [Option.bind_some]
  rw [diffs_ok K L (by omega) tT (by omega)]
  simp only [Option.bind_some]
  rw [h2]
  simp only [Option.bind_some]
  rw [back_ok K L' (by omega) h1.typed (by omega)]
  rfl
theorem cleanASCII_ok (K : Nat) (l : List TS0.den) (hl : l.length ≤ 2147483647) (hK : 3000 ≤ K) : cleanASCII K l = some (decide (l.length ≤ 12) && l.all (goodD 40 true)) := by
  obtain ⟨K, rfl⟩ : ∃ m, K = m + 1 := ⟨K - 1, by omega⟩
  rw [cleanASCII_eq]
  by_cases h : l.length ≤ 12
  · rw [br_le (by omega), cleanOf_ok K l (by omega) (by omega)]
    simp only [Option.bind_some]
    rw [CleanRight_ok K l 12 40 true (by omega) (by omega) (by omega) (by simp; omega)]
    rw [decide_eq_true h, decide_eq_true (show (l.length : Int) ≤ 12 by omega)]
    rfl
  · rw [br_gt (by omega), decide_eq_false h]
    rfl
theorem asc_str {x : List Int} (ho : Okl x) (h : ∀ j, j < (strOfRunes x).size → bt (strOfRunes x) (j : Int) ≤ 126) : Asc x := by
  have key : ∀ (x : List Int), Okl x → (∀ b ∈ encs8 x, b.toNat ≤ 126) → Asc x := by
    intro x
    induction x with
    | nil => intro _ _; exact Asc.nil
    | cons r x ih =>
      intro ho hb
      rw [encs8_cons] at hb
      have h1 := ih (fun s hs => ho s (List.mem_cons_of_mem _ hs)) (fun b hb' => hb b (by simp [hb']))
      obtain ⟨c, rfl, hc⟩ := encL_cases r (ho r (List.mem_cons_self ..))
      have hc0 : (c : Int) < 128 := by
        rcases hc with ⟨hc, _⟩ | ⟨h0, h2, hc⟩ | ⟨h0, h2, _, hc⟩ | ⟨h0, h2, hc⟩
        · omega
        · have := hb (UInt8.ofNat (192 + c / 64)) (by rw [hc]; simp)
          rw [tn _ (by omega)] at this
          omega
        · have := hb (UInt8.ofNat (224 + c / 4096)) (by rw [hc]; simp)
          rw [tn _ (by omega)] at this
          omega
        · have := hb (UInt8.ofNat (240 + c / 262144)) (by rw [hc]; simp)
          rw [tn _ (by omega)] at this
          omega
      intro s hs
      rcases List.mem_cons.1 hs with rfl | hs
      · exact ⟨by omega, hc0⟩
      · exact h1 s hs
  refine key x ho fun b hb => ?_
  rw [← B_str] at hb
  obtain ⟨j, hj, rfl⟩ := List.mem_iff_getElem.1 hb
  have hj' : j < (strOfRunes x).size := by rw [← B_size]; exact hj
  have := h j hj'
  unfold bt at this
  rw [dif_pos (by rw [Int.toNat_natCast]; exact hj')] at this
  have e : (strOfRunes x)[((j : Int)).toNat]'(by rw [Int.toNat_natCast]; exact hj') = (B (strOfRunes x))[j] := rfl
  rw [e] at this
  omega
end Go.Proofs.YtaabfadjemmibaaDoor.E
