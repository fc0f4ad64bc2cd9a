import Derived.Test.YtblmeoigjbnmiaaDoorV8
/- DiffCleanupMerge: the whole. -/
set_option linter.unusedVariables false
set_option linter.unusedSimpArgs false
namespace Go.Proofs.YtblmeoigjbnmiaaDoor.E
open Go.Ev
theorem p2_spec : ∀ (n : Nat) (l : List M), l.length ≤ n → (∀ z, z ≠ 0 → side z (p2 l).1 = side z l) ∧ (Okm l → Okm (p2 l).1) ∧ (Typed l → Typed (p2 l).1) ∧ wt (p2 l).1 ≤ wt l ∧ (mu (p2 l).1 + (if (p2 l).2 then 1 else 0) ≤ mu l) ∧ ((p2 l).2 = false → (p2 l).1 = l)
  | n, l, hl => by
    by_cases h3 : l.length ≤ 2
    · rw [p2_short l h3]
      exact ⟨fun _ _ => rfl, id, id, Nat.le_refl _, by simp, fun _ => rfl⟩
    · obtain ⟨a, b, c, B, rfl⟩ := three h3
      simp only [List.length_cons] at hl
      obtain ⟨n, rfl⟩ : ∃ m, n = m + 1 := ⟨n - 1, by omega⟩
      have skip : (∀ z, z ≠ 0 → side z (a :: (p2 (b :: c :: B)).1) = side z (a :: b :: c :: B)) ∧ (Okm (a :: b :: c :: B) → Okm (a :: (p2 (b :: c :: B)).1)) ∧ (Typed (a :: b :: c :: B) → Typed (a :: (p2 (b :: c :: B)).1)) ∧ wt (a :: (p2 (b :: c :: B)).1) ≤ wt (a :: b :: c :: B) ∧ (mu (a :: (p2 (b :: c :: B)).1) + (if (p2 (b :: c :: B)).2 then 1 else 0) ≤ mu (a :: b :: c :: B)) ∧ ((p2 (b :: c :: B)).2 = false → a :: (p2 (b :: c :: B)).1 = a :: b :: c :: B) := by
        obtain ⟨i1, i2, i3, i4, i5, i6⟩ := p2_spec n (b :: c :: B) (by simp; omega)
        refine ⟨fun z hz => ?_, fun h => Okm.cons h.head (i2 h.tail), fun h => Typed.cons (h a (List.mem_cons_self ..)) (i3 h.tail), ?_, ?_, fun h => by rw [i6 h]⟩
        · rw [side, i1 z hz]; rfl
        · rw [wt, show wt (a :: b :: c :: B) = a.2.length + 1 + wt (b :: c :: B) from rfl]; omega
        · rw [mu, show mu (a :: b :: c :: B) = (if a.1 = 0 then 1 else a.2.length) + mu (b :: c :: B) from rfl]; omega
      by_cases hac : a.1 = 0 ∧ c.1 = 0
      · by_cases hs : a.2 <:+ b.2
        · obtain ⟨q, hq⟩ := hs
          have hp : p2 (a :: b :: c :: B) = ((b.1, a.2 ++ q) :: (p2 ((c.1, a.2 ++ c.2) :: B)).1, true) := by
            rw [p2, if_pos hac, if_pos ⟨q, hq⟩, ← hq]
            simp
          rw [hp]
          obtain ⟨i1, i2, i3, i4, i5, i6⟩ := p2_spec n ((c.1, a.2 ++ c.2) :: B) (by simp; omega)
          have hlen : b.2.length = q.length + a.2.length := by rw [← hq, List.length_append]
          refine ⟨fun z hz => ?_, fun h => ?_, fun h => ?_, ?_, ?_, fun h => by cases h⟩
          · have ha : ¬ a.1 = z := by omega
            have hc : ¬ c.1 = z := by omega
            simp only [side, i1 z hz, if_neg ha, if_neg hc]
            split
            · simp
            · rw [← hq]; simp
          · have hb := h.tail.head
            rw [← hq] at hb
            exact Okm.cons (h.head.append hb.left) (i2 (Okm.cons (h.head.append h.tail.tail.head) h.tail.tail.tail))
          · exact Typed.cons (h b (by simp)) (i3 (Typed.cons (h c (by simp)) h.tail.tail.tail))
          · simp only [wt, List.length_append] at i4 ⊢; omega
          · have i5' : mu (p2 ((c.1, a.2 ++ c.2) :: B)).1 ≤ mu ((c.1, a.2 ++ c.2) :: B) := by omega
            simp only [mu, if_pos hac.1, if_pos hac.2, List.length_append] at i5' ⊢
            simp only [if_pos]
            split <;> omega
        · by_cases hpf : c.2 <+: b.2
          · obtain ⟨q, hq⟩ := hpf
            have hp : p2 (a :: b :: c :: B) = ((a.1, a.2 ++ c.2) :: (p2 ((b.1, q ++ c.2) :: B)).1, true) := by
              rw [p2, if_pos hac, if_neg hs, if_pos ⟨q, hq⟩, ← hq]
              simp
            rw [hp]
            obtain ⟨i1, i2, i3, i4, i5, i6⟩ := p2_spec n ((b.1, q ++ c.2) :: B) (by simp; omega)
            have hlen : b.2.length = c.2.length + q.length := by rw [← hq, List.length_append]
            refine ⟨fun z hz => ?_, fun h => ?_, fun h => ?_, ?_, ?_, fun h => by cases h⟩
            · have ha : ¬ a.1 = z := by omega
              have hc : ¬ c.1 = z := by omega
              simp only [side, i1 z hz, if_neg ha, if_neg hc]
              split
              · simp
              · rw [← hq]; simp
            · have hb := h.tail.head
              rw [← hq] at hb
              exact Okm.cons (h.head.append h.tail.tail.head) (i2 (Okm.cons (hb.right.append h.tail.tail.head) h.tail.tail.tail))
            · exact Typed.cons (h a (by simp)) (i3 (Typed.cons (h b (by simp)) h.tail.tail.tail))
            · simp only [wt, List.length_append] at i4 ⊢; omega
            · have i5' : mu (p2 ((b.1, q ++ c.2) :: B)).1 ≤ mu ((b.1, q ++ c.2) :: B) := by omega
              by_cases hb0 : b.1 = 0
              · simp only [mu, if_pos hac.1, if_pos hac.2, if_pos hb0, List.length_append] at i5' ⊢
                simp only [if_pos]
                omega
              · simp only [mu, if_pos hac.1, if_pos hac.2, if_neg hb0, List.length_append] at i5' ⊢
                simp only [if_pos]
                omega
          · have hp : p2 (a :: b :: c :: B) = (a :: (p2 (b :: c :: B)).1, (p2 (b :: c :: B)).2) := by rw [p2, if_pos hac, if_neg hs, if_neg hpf]
            rw [hp]
            exact skip
      · have hp : p2 (a :: b :: c :: B) = (a :: (p2 (b :: c :: B)).1, (p2 (b :: c :: B)).2) := by rw [p2, if_neg hac]
        rw [hp]
        exact skip
termination_by n => n
def cutEnd (l : List M) : List M := match l.getLast? with
  | some (_, []) => l.dropLast
  | _ => l
def p1 (l : List M) : List M := cutEnd (pass1 none [] (l ++ [(0, [])]))
theorem cutEnd_snoc (D0 : List M) (t : Int) (e : List Int) : cutEnd (D0 ++ [(t, e)]) = if e = [] then D0 else D0 ++ [(t, e)] := by
  unfold cutEnd
  cases e with
  | nil => simp
  | cons x e => simp
theorem p1_spec (l : List M) (tT : Typed l) (oT : Okm l) : ∃ D0 e, pass1 none [] (l ++ [(0, [])]) = D0 ++ [(0, e)] ∧ Okm (D0 ++ [(0, e)]) ∧ wt (D0 ++ [(0, e)]) ≤ wt l + 1 ∧ Okm (p1 l) ∧ Typed (p1 l) ∧ (∀ z, z = 1 ∨ z = -1 → side z (p1 l) = side z l) ∧ wt (p1 l) ≤ wt l + 1 ∧ mu (p1 l) ≤ mu l := by
  obtain ⟨D0, e, h1, h2, h3, h4, h5, h6, h7⟩ := pass1_ends l none [] Edits.nil tT Okm.nil Okm.nil oT Typed.nil
  have e1 : p1 l = if e = [] then D0 else D0 ++ [(0, e)] := by unfold p1; rw [h1, cutEnd_snoc]
  simp only [toL, wt, mu, side, Nat.zero_add, List.nil_append] at h4 h5 h6 h7
  refine ⟨D0, e, h1, h2, h5, ?_⟩
  rw [e1]
  by_cases he : e = []
  · subst he
    rw [if_pos rfl]
    rw [wt_app] at h5
    rw [mu_app] at h6
    simp [wt, mu] at h5 h6
    refine ⟨h2.left, h3.left, fun z hz => ?_, by omega, h6⟩
    have := h4 z hz
    rw [side_app] at this
    simpa [side] using this
  · rw [if_neg he]
    exact ⟨h2, h3, h4, h5, h7 he⟩
def dcm : Nat → List M → List M
  | 0, l => l
  | n + 1, l => if (p2 (p1 l)).2 then dcm n (p2 (p1 l)).1 else (p2 (p1 l)).1
theorem dcm_ok : ∀ (n : Nat) (l : List M) (W K : Nat) (X : TS0.den), mu l < n → Okm l → Typed l → wt l + mu l ≤ W → W ≤ 100000 → n + 20 * W + 100 ≤ K → DiffCleanupMerge K X (enc l) = some (enc (dcm n l))
  | 0, l, W, K, X, hm, _, _, _, _, _ => by omega
  | n + 1, l, W, K, X, hm, oT, tT, hW, hW2, hK => by
    obtain ⟨K, rfl⟩ : ∃ m, K = m + 1 := ⟨K - 1, by omega⟩
    obtain ⟨D0, e, h1, h2, hw, o1, t1, _, w1, m1⟩ := p1_spec l tT oT
    obtain ⟨_, o2, t2, w2, m2, f2⟩ := p2_spec _ (p1 l) (Nat.le_refl _)
    have hwl := wt_len l
    have hwp := wt_len (p1 l)
    rw [DiffCleanupMerge_eq, chk_lt (by rw [enc_len]; simp; omega)]
    obtain ⟨k', hk', e1⟩ := loop1 K 0 [X] l [] none K Edits.nil tT Okm.nil Okm.nil oT (by simp [toL, wt]; omega) (by simp [toL, wt]; omega) (by omega)
    have e0 : enc l ++ [((0 : Int), (⟨#[]⟩ : ByteArray))] = enc (l ++ [(0, [])]) := by rw [enc_app]; rfl
    rw [e0]
    have e1' : DiffCleanupMerge_l0 K K 0 [X] (enc (l ++ [(0, [])])) 0 0 0 [] [] = DiffCleanupMerge_j1 K k' 0 [X] (enc (pass1 none [] (l ++ [(0, [])]))) := e1
    rw [e1', h1]
    obtain ⟨k', rfl⟩ : ∃ m, k' = m + 2 := ⟨k' - 2, by omega⟩
    have hl : (enc (D0 ++ [(0, e)])).length = D0.length + 1 := by rw [enc_len]; simp
    have hwD := wt_len (D0 ++ [(0, e)])
    rw [List.length_append, List.length_cons, List.length_nil] at hwD
    have w0 : IntKind.i64.wrap (((D0.length + 1 : Nat) : Int) - 1) = (D0.length : Int) := by rw [wrap_id (by omega) (by omega)]; omega
    have j1 : DiffCleanupMerge_j1 K (k' + 2) 0 [X] (enc (D0 ++ [(0, e)])) = DiffCleanupMerge_j4 K (k' + 1) 0 [X] (enc (p1 l)) := by
      have ep : p1 l = if e = [] then D0 else D0 ++ [(0, e)] := by unfold p1; rw [h1, cutEnd_snoc]
      rw [DiffCleanupMerge_j1_eq, hl, w0, nth_enc D0 [] (0, e) _ rfl, ep]
      simp only []
      by_cases he : e = []
      · rw [if_pos he]
        have hs : (strOfRunes e).size = 0 := (strOfRunes_size0 h2.right.head).2 he
        have hx : List.take D0.length (enc (D0 ++ [(0, e)])) = enc D0 := by
          rw [enc_app, show D0.length = (enc D0).length by rw [enc_len], List.take_left]
        simp only [Int.toNat_natCast]
        rw [hx]
        simp (disch := omega) only [chk_le, chk_lt, chk_eq, chk_nle, chk_neq, br_lt, br_ge, br_le, br_gt, br_eq, br_ne, br_not, br_true, br_false, br_and, wrap_id, obs, List.length_set, List.length_append, List.length_cons, List.length_nil, List.length_take, List.length_drop]
      · rw [if_neg he]
        have hs : ¬ (strOfRunes e).size = 0 := fun h => he ((strOfRunes_size0 h2.right.head).1 h)
        simp (disch := omega) only [chk_le, chk_lt, chk_eq, chk_nle, chk_neq, br_lt, br_ge, br_le, br_gt, br_eq, br_ne, br_not, br_true, br_false, br_and, wrap_id, obs, List.length_set, List.length_append, List.length_cons, List.length_nil, List.length_take, List.length_drop]
    rw [j1, DiffCleanupMerge_j4_eq]
    obtain ⟨k2, hk2, e2⟩ := loop2 K 0 [X] (by omega) (p1 l).length [] (p1 l) false k' (Nat.le_refl _) (by simpa using o1) (by simp; omega) (by omega)
    rw [List.nil_append, List.nil_append, Bool.false_or] at e2
    refine e2.trans ?_
    obtain ⟨k2, rfl⟩ : ∃ m, k2 = m + 1 := ⟨k2 - 1, by omega⟩
    rw [DiffCleanupMerge_j11_eq, dcm]
    cases hf : (p2 (p1 l)).2 with
    | true =>
      rw [hf] at m2
      simp only [if_pos] at m2
      rw [br_true, if_pos rfl]
      have hX : nth TS0 [X] 0 = X := rfl
      rw [hX, dcm_ok n (p2 (p1 l)).1 W K X (by omega) (o2 o1) (t2 t1) (by omega) hW2 (by omega)]
      rfl
    | false => rw [br_false]; simp
theorem dcm_spec : ∀ (n : Nat) (l : List M), mu l < n → Okm l → Typed l → ∃ l', dcm n l = p1 l' ∧ (p2 (p1 l')).2 = false ∧ Okm l' ∧ Typed l' ∧ (∀ z, z = 1 ∨ z = -1 → side z (p1 l') = side z l) ∧ wt (p1 l') + mu (p1 l') ≤ wt l + mu l + 1 ∧ mu (p1 l') ≤ mu l
  | 0, l, hm, _, _ => by omega
  | n + 1, l, hm, oT, tT => by
    obtain ⟨D0, e, h1, h2, hw, o1, t1, s1, w1, m1⟩ := p1_spec l tT oT
    obtain ⟨s2, o2, t2, w2, m2, f2⟩ := p2_spec _ (p1 l) (Nat.le_refl _)
    rw [dcm]
    cases hf : (p2 (p1 l)).2 with
    | true =>
      rw [hf] at m2
      simp only [if_pos] at m2
      rw [if_pos rfl]
      obtain ⟨l', i1, i2, i3, i4, i5, i6, i7⟩ := dcm_spec n (p2 (p1 l)).1 (by omega) (o2 o1) (t2 t1)
      exact ⟨l', i1, i2, i3, i4, fun z hz => by rw [i5 z hz, s2 z (by omega), s1 z hz], by omega, by omega⟩
    | false =>
      exact ⟨l, by simp [f2 hf], hf, oT, tT, s1, by omega, m1⟩
end Go.Proofs.YtblmeoigjbnmiaaDoor.E
