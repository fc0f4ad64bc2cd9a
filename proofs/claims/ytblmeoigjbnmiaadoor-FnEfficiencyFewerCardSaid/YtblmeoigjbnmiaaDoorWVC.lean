import Derived.Test.YtblmeoigjbnmiaaDoorWV
/- DiffCleanupMerge: characters of edits; merged twice; the order of edits. -/
set_option linter.unusedVariables false
set_option linter.unusedSimpArgs false
namespace Go.Proofs.YtblmeoigjbnmiaaDoor.E
open Go.Ev
/-- Characters of edits; how many edits. -/
def ed : List M → Nat
  | [] => 0
  | m :: l => (if m.1 = 0 then 0 else m.2.length) + ed l
def cnt : List M → Nat
  | [] => 0
  | m :: l => (if m.1 = 0 then 0 else 1) + cnt l
theorem ed_app : ∀ a b : List M, ed (a ++ b) = ed a + ed b
  | [], b => by simp [ed]
  | m :: a, b => by simp only [List.cons_append, ed, ed_app a b]; omega
theorem ed_side : ∀ {R : List M}, Edits R → ed R = (sideD R).length + (sideI R).length
  | [], _ => rfl
  | m :: R, h => by
    have ih := ed_side (R := R) (fun x hx => h x (List.mem_cons_of_mem _ hx))
    rcases h m (List.mem_cons_self ..) with hm | hm <;> simp [ed, sideD, sideI, hm, ih] <;> omega
theorem ed_mk (c n : Nat) (d i : List Int) : ed (mk c n d i) ≤ d.length + i.length := by
  unfold mk
  by_cases hc : c = 0
  · simp [hc, ed]
  · by_cases hn : n = 0
    · simp [hc, hn, ed]
    · simp [hc, hn, ed]
theorem ed_push (D : Dn) (P : List Int) : ed (toL (pushP D P)) = ed (toL D) := by
  unfold pushP
  split
  · rfl
  · match D with
    | none => rfl
    | some (D0, e) => simp [toL, ed_app, ed]
theorem step_ed (D : Dn) (R : List M) (x : List Int) (hR : Edits R) : ed (toL (stepE D R x)) ≤ ed (toL D) + ed R := by
  unfold stepE
  split
  · obtain ⟨d, i, h1, h2, h3⟩ := nrm_spec R
    have l2 := congrArg List.length h2
    have l3 := congrArg List.length h3
    simp only [List.length_append] at l2 l3
    have := ed_mk (cD R) (cI R) d i
    rw [toL_some, ed_app, ed_app, ed_push, h1, ed_side hR]
    simp only [ed, if_pos]
    omega
  · unfold one
    split
    · simp [toL, ed_app, ed]
    · simp [toL_some, ed_app, ed]
theorem pass1_ed : ∀ (T : List M) (D : Dn) (R : List M), Edits R → Typed T → ed (pass1 D R T) ≤ ed (toL D) + ed R + ed T
  | [], D, R, _, _ => by rw [pass1, ed_app]; simp [ed]
  | m :: T, D, R, hR, tT => by
    rw [pass1]
    by_cases hm : m.1 = 0
    · rw [if_pos hm]
      have h1 := pass1_ed T (stepE D R m.2) [] Edits.nil tT.tail
      have h2 := step_ed D R m.2 hR
      simp only [ed, if_pos hm] at *
      omega
    · rw [if_neg hm]
      have h1 := pass1_ed T D (R ++ [m]) (hR.snoc ((tT m (List.mem_cons_self ..)).resolve_left hm)) tT.tail
      rw [ed_app] at h1
      simp only [ed, if_neg hm] at *
      omega
theorem p1_ed (l : List M) (tT : Typed l) (oT : Okm l) : ed (p1 l) ≤ ed l := by
  obtain ⟨D0, e, h1, _⟩ := p1_spec l tT oT
  have h2 := pass1_ed (l ++ [(0, [])]) none [] Edits.nil (tT.app (Typed.cons (.inl rfl) Typed.nil))
  rw [h1, ed_app, ed_app] at h2
  unfold p1
  rw [h1, cutEnd_snoc]
  simp only [ed, toL, if_pos] at h2
  split
  · omega
  · rw [ed_app]; simp only [ed, if_pos]; omega
theorem p2_ed : ∀ (n : Nat) (l : List M), l.length ≤ n → ed (p2 l).1 = ed l ∧ cnt (p2 l).1 = cnt l
  | n, l, hl => by
    by_cases h3 : l.length ≤ 2
    · rw [p2_short l h3]; exact ⟨rfl, rfl⟩
    · obtain ⟨a, b, c, B, rfl⟩ := three h3
      simp only [List.length_cons] at hl
      obtain ⟨n, rfl⟩ : ∃ m, n = m + 1 := ⟨n - 1, by omega⟩
      have skip := p2_ed n (b :: c :: B) (by simp; omega)
      by_cases hac : a.1 = 0 ∧ c.1 = 0
      · by_cases hs : a.2 <:+ b.2
        · obtain ⟨q, hq⟩ := hs
          have hp : p2 (a :: b :: c :: B) = ((b.1, a.2 ++ q) :: (p2 ((c.1, a.2 ++ c.2) :: B)).1, true) := by
            rw [p2, if_pos hac, if_pos ⟨q, hq⟩, ← hq]
            simp
          have ih := p2_ed n ((c.1, a.2 ++ c.2) :: B) (by simp; omega)
          have hlen : b.2.length = q.length + a.2.length := by rw [← hq, List.length_append]
          rw [hp]
          simp only [ed, cnt, ih.1, ih.2, if_pos hac.1, if_pos hac.2, List.length_append, hlen]
          exact ⟨by split <;> omega, by omega⟩
        · by_cases hpf : c.2 <+: b.2
          · obtain ⟨q, hq⟩ := hpf
            have hp : p2 (a :: b :: c :: B) = ((a.1, a.2 ++ c.2) :: (p2 ((b.1, q ++ c.2) :: B)).1, true) := by
              rw [p2, if_pos hac, if_neg hs, if_pos ⟨q, hq⟩, ← hq]
              simp
            have ih := p2_ed n ((b.1, q ++ c.2) :: B) (by simp; omega)
            have hlen : b.2.length = c.2.length + q.length := by rw [← hq, List.length_append]
            rw [hp]
            simp only [ed, cnt, ih.1, ih.2, if_pos hac.1, if_pos hac.2, List.length_append, hlen]
            exact ⟨by split <;> omega, by omega⟩
          · have hp : p2 (a :: b :: c :: B) = (a :: (p2 (b :: c :: B)).1, (p2 (b :: c :: B)).2) := by rw [p2, if_pos hac, if_neg hs, if_neg hpf]
            rw [hp]
            exact ⟨by simp only [ed] at skip ⊢; omega, by simp only [cnt] at skip ⊢; omega⟩
      · have hp : p2 (a :: b :: c :: B) = (a :: (p2 (b :: c :: B)).1, (p2 (b :: c :: B)).2) := by rw [p2, if_neg hac]
        rw [hp]
        exact ⟨by simp only [ed] at skip ⊢; omega, by simp only [cnt] at skip ⊢; omega⟩
termination_by n => n
theorem dcm_ed : ∀ (n : Nat) (l : List M), Okm l → Typed l → ed (dcm n l) ≤ ed l
  | 0, _, _, _ => Nat.le_refl _
  | n + 1, l, oT, tT => by
    obtain ⟨_, _, _, _, _, o1, t1, _, _, _⟩ := p1_spec l tT oT
    obtain ⟨_, o2, t2, _, _, _⟩ := p2_spec _ (p1 l) (Nat.le_refl _)
    have h1 := p1_ed l tT oT
    have h2 := (p2_ed _ (p1 l) (Nat.le_refl _)).1
    rw [dcm]
    split
    · have := dcm_ed n (p2 (p1 l)).1 (o2 o1) (t2 t1)
      omega
    · omega
/-! ### merged twice -/
def Stable : Dn → Prop
  | none => True
  | some (D0, _) => ∀ e T, pass1 none [] (D0 ++ (0, e) :: T) = pass1 (some (D0, e)) [] T
theorem stable_at {D : Dn} (h : Stable D) (T : List M) : pass1 none [] (toL D ++ T) = pass1 D [] T := by
  match D, h with
  | none, _ => rfl
  | some (D0, e), h =>
    rw [toL_some, List.append_assoc]
    exact h e T
theorem one_nil (e : List Int) : stepE none [] e = some ([], e) := rfl
theorem stable_push {D : Dn} (h : Stable D) (P : List Int) : Stable (pushP D P) := by
  unfold pushP
  split
  · exact h
  · match D, h with
    | none, _ =>
      intro e T
      show pass1 none [] ((0, e) :: T) = _
      rw [pass1, if_pos rfl, one_nil]
    | some (D0, _), h => exact h
theorem pass1_edits : ∀ (W R : List M) (D : Dn) (T : List M), Edits W → pass1 D R (W ++ T) = pass1 D (R ++ W) T
  | [], R, D, T, _ => by simp
  | m :: W, R, D, T, h => by
    have hm := h m (List.mem_cons_self ..)
    rw [List.cons_append, pass1, if_neg (by omega), pass1_edits W (R ++ [m]) D T (fun x hx => h x (List.mem_cons_of_mem _ hx))]
    simp
theorem cpl_nil_r (x : List Int) : cpl x [] = 0 := cpl_out _ _ (.inr rfl)
theorem cpl_zero_take {x y : List Int} (h : cpl x y = 0) (m n : Nat) : cpl (x.take m) (y.take n) = 0 := by
  cases x with
  | nil => simp [cpl]
  | cons a x =>
    cases y with
    | nil => simp [cpl_nil_r]
    | cons b y =>
      by_cases hab : a = b
      · simp [cpl, hab] at h
      · cases m with
        | zero => simp [cpl]
        | succ m =>
          cases n with
          | zero => simp [cpl_nil_r]
          | succ n => simp [cpl, hab]
theorem cpl_drop (x y : List Int) : cpl (x.drop (cpl x y)) (y.drop (cpl x y)) = 0 := by
  by_cases h1 : cpl x y < x.length
  · by_cases h2 : cpl x y < y.length
    · have := cpl_max x y h1 h2
      rw [List.drop_eq_getElem_cons h1, List.drop_eq_getElem_cons h2]
      simp [cpl, this]
    · exact cpl_out _ _ (.inr (List.drop_eq_nil_of_le (by omega)))
  · exact cpl_out _ _ (.inl (List.drop_eq_nil_of_le (by omega)))
theorem csl_take (x y : List Int) : csl (x.take (x.length - csl x y)) (y.take (y.length - csl x y)) = 0 := by
  unfold csl
  rw [List.reverse_take, List.reverse_take]
  have h := cpl_le x.reverse y.reverse
  simp only [List.length_reverse] at h
  rw [show x.length - (x.length - cpl x.reverse y.reverse) = cpl x.reverse y.reverse by omega, show y.length - (y.length - cpl x.reverse y.reverse) = cpl x.reverse y.reverse by omega]
  exact cpl_drop _ _
/-- A run that is merged, merged once more. -/
theorem nrm_nrm (R : List M) : (nrm R).2.1.length ≤ 1 ∨ nrm (nrm R).2.1 = ([], (nrm R).2.1, []) := by
  by_cases h : cD R = 0 ∨ cI R = 0
  · left
    rw [show nrm R = ([], mk (cD R) (cI R) (sideD R) (sideI R), []) from if_pos h]
    unfold mk
    rcases h with h | h
    · simp [h]
    · by_cases hc : cD R = 0
      · simp [hc]
      · simp [h, hc]
  · right
    rw [show nrm R = (_, _, _) from if_neg h]
    simp only []
    generalize hd : ((sideD R).drop (cpl (sideI R) (sideD R))).take (((sideD R).drop (cpl (sideI R) (sideD R))).length - csl ((sideI R).drop (cpl (sideI R) (sideD R))) ((sideD R).drop (cpl (sideI R) (sideD R)))) = d
    generalize hi : ((sideI R).drop (cpl (sideI R) (sideD R))).take (((sideI R).drop (cpl (sideI R) (sideD R))).length - csl ((sideI R).drop (cpl (sideI R) (sideD R))) ((sideD R).drop (cpl (sideI R) (sideD R)))) = i
    have e1 : cpl i d = 0 := by rw [← hd, ← hi]; exact cpl_zero_take (cpl_drop _ _) _ _
    have e2 : csl i d = 0 := by rw [← hd, ← hi]; exact csl_take _ _
    have hmk : mk (cD R) (cI R) d i = [(-1, d), (1, i)] := by
      unfold mk
      rw [if_neg (fun h' => h (.inl h')), if_neg (fun h' => h (.inr h'))]
    rw [hmk]
    have s1 : cD [((-1 : Int), d), (1, i)] = 1 := rfl
    have s2 : cI [((-1 : Int), d), (1, i)] = 1 := rfl
    have s3 : sideD [((-1 : Int), d), (1, i)] = d := by simp [sideD]
    have s4 : sideI [((-1 : Int), d), (1, i)] = i := by simp [sideI]
    unfold nrm
    rw [s1, s2, s3, s4, e1, if_neg (by omega)]
    simp only [List.drop_zero, List.take_zero]
    rw [e2]
    simp [mk]
theorem nrm_pos (R : List M) : 0 < (nrm R).2.1.length := by
  obtain ⟨d, i, h, _⟩ := nrm_spec R
  rw [h]
  unfold mk
  split
  · simp
  · split <;> simp
theorem one_ne (D : Dn) (R : List M) (x : List Int) (h : R ≠ []) : one D R x = some (toL D ++ R, x) := by
  unfold one
  split
  · exact absurd rfl h
  · rfl
theorem stable_step {D : Dn} (h : Stable D) {R : List M} (hR : Edits R) (x : List Int) : Stable (stepE D R x) := by
  by_cases h2 : 2 ≤ R.length
  · rw [show stepE D R x = some (toL (pushP D (nrm R).1) ++ (nrm R).2.1, (nrm R).2.2 ++ x) from if_pos h2]
    have hs := stable_push h (nrm R).1
    obtain ⟨d, i, hW, _⟩ := nrm_spec R
    have hE : Edits (nrm R).2.1 := by rw [hW]; exact mk_edits _ _ _ _
    intro e T
    rw [List.append_assoc, stable_at hs, pass1_edits _ _ _ _ hE, List.nil_append, pass1, if_pos rfl]
    congr 1
    unfold stepE
    rcases nrm_nrm R with h1 | h1
    · rw [if_neg (by omega)]
      exact one_ne _ _ _ (fun h0 => by have := nrm_pos R; rw [h0] at this; simp at this)
    · by_cases h3 : 2 ≤ (nrm R).2.1.length
      · rw [if_pos h3, h1]
        simp [pushP]
      · rw [if_neg h3]
        exact one_ne _ _ _ (fun h0 => by have := nrm_pos R; rw [h0] at this; simp at this)
  · rw [show stepE D R x = one D R x from if_neg h2]
    match D, R, h, hR, h2 with
    | some (D0, e), [], h, _, _ => exact h
    | none, [], _, _, _ =>
      intro e T
      show pass1 none [] ((0, e) :: T) = _
      rw [pass1, if_pos rfl]
      rfl
    | D, m :: R, h, hR, h2 =>
      rw [one_ne D (m :: R) x (by simp)]
      intro e T
      rw [List.append_assoc, stable_at h, pass1_edits _ _ _ _ hR, List.nil_append, pass1, if_pos rfl]
      congr 1
      unfold stepE
      rw [if_neg h2]
      exact one_ne _ _ _ (by simp)
theorem pass1_stable : ∀ (T : List M) (D : Dn) (R : List M), Stable D → Edits R → Typed T → ∃ D0 e, pass1 D R (T ++ [(0, [])]) = D0 ++ [(0, e)] ∧ Stable (some (D0, e))
  | [], D, R, hD, hR, _ => by
    obtain ⟨D0, e, h⟩ := step_some D R []
    have := stable_step hD hR []
    rw [h] at this
    refine ⟨D0, e, ?_, this⟩
    show pass1 (stepE D R []) [] [] = _
    rw [h]
    simp [pass1, toL]
  | m :: T, D, R, hD, hR, tT => by
    rw [List.cons_append, pass1]
    by_cases hm : m.1 = 0
    · rw [if_pos hm]
      exact pass1_stable T _ [] (stable_step hD hR _) Edits.nil tT.tail
    · rw [if_neg hm]
      exact pass1_stable T D _ hD (hR.snoc ((tT m (List.mem_cons_self ..)).resolve_left hm)) tT.tail
theorem p1_p1 (l : List M) (tT : Typed l) : p1 (p1 l) = p1 l := by
  obtain ⟨D0, e, h1, hs⟩ := pass1_stable l none [] trivial Edits.nil tT
  have hp : p1 l = if e = [] then D0 else D0 ++ [(0, e)] := by unfold p1; rw [h1, cutEnd_snoc]
  rw [hp]
  by_cases he : e = []
  · rw [if_pos he]
    unfold p1
    rw [hs [] []]
    rw [pass1, toL_some, List.append_nil, cutEnd_snoc, if_pos rfl]
  · rw [if_neg he]
    unfold p1
    rw [List.append_assoc, show [((0 : Int), e)] ++ [(0, [])] = (0, e) :: [(0, [])] from rfl, hs e [(0, [])], pass1, if_pos rfl]
    have : stepE (some (D0, e)) [] [] = some (D0, e) := by
      show some (D0, e ++ []) = _
      rw [List.append_nil]
    rw [this, pass1, toL_some, List.append_nil, cutEnd_snoc, if_neg he]
theorem dcm_dcm (n m : Nat) (l : List M) (hm : mu l < n) (oT : Okm l) (tT : Typed l) (h : 0 < m) : dcm m (dcm n l) = dcm n l := by
  obtain ⟨l', e1, e2, o', t', _⟩ := dcm_spec n l hm oT tT
  obtain ⟨_, _, _, _, _, f2⟩ := p2_spec _ (p1 l') (Nat.le_refl _)
  obtain ⟨m, rfl⟩ : ∃ z, m = z + 1 := ⟨m - 1, by omega⟩
  rw [e1, dcm, p1_p1 l' t', e2]
  simp [f2 e2]
/-! ### the order of edits -/
def fz (z : Int) : List M → List M
  | [] => []
  | m :: R => if m.1 = z then m :: fz z R else fz z R
def reo : List M → List M → List M
  | R, [] => fz 1 R ++ fz (-1) R
  | R, m :: T => if m.1 = 0 then (fz 1 R ++ fz (-1) R) ++ m :: reo [] T else reo (R ++ [m]) T
theorem fz_edits (z : Int) (hz : z = 1 ∨ z = -1) : ∀ R : List M, Edits (fz z R)
  | [] => Edits.nil
  | m :: R => by
    unfold fz
    split
    · rename_i h
      intro x hx
      rcases List.mem_cons.1 hx with rfl | hx
      · omega
      · exact fz_edits z hz R x hx
    · exact fz_edits z hz R
theorem c_app : ∀ a b : List M, cD (a ++ b) = cD a + cD b ∧ cI (a ++ b) = cI a + cI b
  | [], b => by simp [cD, cI]
  | m :: a, b => by
    have := c_app a b
    simp only [List.cons_append, cD, cI, this.1, this.2]
    exact ⟨by split <;> omega, by split <;> omega⟩
theorem fz1 : ∀ R : List M, cD (fz 1 R) = 0 ∧ cI (fz 1 R) = cI R ∧ sideD (fz 1 R) = [] ∧ sideI (fz 1 R) = sideI R
  | [] => ⟨rfl, rfl, rfl, rfl⟩
  | m :: R => by
    obtain ⟨h1, h2, h3, h4⟩ := fz1 R
    unfold fz
    by_cases hm : m.1 = 1
    · have : ¬ m.1 = -1 := by omega
      simp [hm, cD, cI, sideD, sideI, h1, h2, h3, h4]
    · simp [hm, cI, sideI, h1, h2, h3, h4]
theorem fzm : ∀ R : List M, cD (fz (-1) R) = cD R ∧ cI (fz (-1) R) = 0 ∧ sideD (fz (-1) R) = sideD R ∧ sideI (fz (-1) R) = []
  | [] => ⟨rfl, rfl, rfl, rfl⟩
  | m :: R => by
    obtain ⟨h1, h2, h3, h4⟩ := fzm R
    unfold fz
    by_cases hm : m.1 = -1
    · have : ¬ m.1 = 1 := by omega
      simp [hm, cD, cI, sideD, sideI, h1, h2, h3, h4]
    · simp [hm, cD, sideD, h1, h2, h3, h4]
theorem reo_edits (R : List M) : Edits (fz 1 R ++ fz (-1) R) := fun x hx => (List.mem_append.1 hx).elim (fz_edits 1 (.inl rfl) R x) (fz_edits (-1) (.inr rfl) R x)
theorem step_reo (D : Dn) (R : List M) (x : List Int) (hR : Edits R) : stepE D (fz 1 R ++ fz (-1) R) x = stepE D R x := by
  obtain ⟨a1, a2, a3, a4⟩ := fz1 R
  obtain ⟨b1, b2, b3, b4⟩ := fzm R
  have c1 : cD (fz 1 R ++ fz (-1) R) = cD R := by rw [(c_app _ _).1, a1, b1]; omega
  have c2 : cI (fz 1 R ++ fz (-1) R) = cI R := by rw [(c_app _ _).2, a2, b2]; omega
  have c3 : sideD (fz 1 R ++ fz (-1) R) = sideD R := by rw [sideD_app, a3, b3]; rfl
  have c4 : sideI (fz 1 R ++ fz (-1) R) = sideI R := by rw [sideI_app, a4, b4]; simp
  have hl : (fz 1 R ++ fz (-1) R).length = R.length := by rw [← cDI (reo_edits R), ← cDI hR, c1, c2]
  by_cases h2 : 2 ≤ R.length
  · unfold stepE
    rw [hl, if_pos h2, if_pos h2]
    have : nrm (fz 1 R ++ fz (-1) R) = nrm R := by unfold nrm; rw [c1, c2, c3, c4]
    rw [this]
  · match R, hR, h2 with
    | [], _, _ => rfl
    | [m], hR, _ =>
      have hm := hR m (List.mem_cons_self ..)
      have : fz 1 [m] ++ fz (-1) [m] = [m] := by
        rcases hm with hm | hm
        · have : ¬ m.1 = -1 := by omega
          simp [fz, hm]
        · have : ¬ m.1 = 1 := by omega
          simp [fz, hm]
      rw [this]
    | _ :: _ :: _, _, h2 => exact absurd (by simp) h2
theorem pass1_reo : ∀ (T R : List M) (D : Dn), Edits R → Typed T → pass1 D [] (reo R T ++ [(0, [])]) = pass1 D R (T ++ [(0, [])])
  | [], R, D, hR, _ => by
    rw [reo, pass1_edits _ _ _ _ (reo_edits R), List.nil_append, pass1, if_pos rfl, step_reo D R [] hR, List.nil_append]
    exact (if_pos rfl).symm
  | m :: T, R, D, hR, tT => by
    rw [reo]
    by_cases hm : m.1 = 0
    · rw [if_pos hm, List.append_assoc, pass1_edits _ _ _ _ (reo_edits R), List.nil_append, List.cons_append, pass1, if_pos hm, step_reo D R _ hR, pass1_reo T [] _ Edits.nil tT.tail, List.cons_append, pass1, if_pos hm]
    · rw [if_neg hm, pass1_reo T (R ++ [m]) D (hR.snoc ((tT m (List.mem_cons_self ..)).resolve_left hm)) tT.tail, List.cons_append, pass1, if_neg hm]
theorem p1_reo (l : List M) (tT : Typed l) : p1 (reo [] l) = p1 l := by
  unfold p1
  rw [pass1_reo l [] none Edits.nil tT]
theorem dcm_reo (n : Nat) (l : List M) (tT : Typed l) : dcm (n + 1) (reo [] l) = dcm (n + 1) l := by
  rw [dcm, dcm, p1_reo l tT]
theorem fz_wt (R : List M) (hR : Edits R) : wt (fz 1 R ++ fz (-1) R) = wt R ∧ mu (fz 1 R ++ fz (-1) R) = mu R := by
  induction R with
  | nil => exact ⟨rfl, rfl⟩
  | cons m R ih =>
    have ih := ih (fun x hx => hR x (List.mem_cons_of_mem _ hx))
    rw [wt_app, mu_app] at *
    rcases hR m (List.mem_cons_self ..) with hm | hm
    · have : ¬ m.1 = -1 := by omega
      simp [fz, hm, wt, mu]; omega
    · have : ¬ m.1 = 1 := by omega
      simp [fz, hm, wt, mu]; omega
theorem reo_wt : ∀ (T R : List M), Edits R → Typed T → wt (reo R T) = wt R + wt T ∧ mu (reo R T) = mu R + mu T ∧ (Okm R → Okm T → Okm (reo R T)) ∧ Typed (reo R T)
  | [], R, hR, _ => by
    have := fz_wt R hR
    rw [reo]
    exact ⟨by rw [this.1]; simp [wt], by rw [this.2]; simp [mu], fun hO _ => (fz_ok 1 R hO).app (fz_ok (-1) R hO), (reo_edits R).typed⟩
  | m :: T, R, hR, tT => by
    rw [reo]
    by_cases hm : m.1 = 0
    · have h1 := fz_wt R hR
      obtain ⟨h2, h3, h4, h5⟩ := reo_wt T [] Edits.nil tT.tail
      rw [if_pos hm, wt_app, mu_app, h1.1, h1.2]
      simp only [wt, mu, h2, h3]
      refine ⟨by omega, by omega, fun hO hT => ((fz_ok 1 R hO).app (fz_ok (-1) R hO)).app (Okm.cons hT.head (h4 Okm.nil hT.tail)), (reo_edits R).typed.app (Typed.cons (.inl hm) h5)⟩
    · obtain ⟨h2, h3, h4, h5⟩ := reo_wt T (R ++ [m]) (hR.snoc ((tT m (List.mem_cons_self ..)).resolve_left hm)) tT.tail
      rw [if_neg hm, h2, h3, wt_app, mu_app]
      simp only [wt, mu]
      exact ⟨by omega, by omega, fun hO hT => h4 (hO.app (Okm.cons hT.head Okm.nil)) hT.tail, h5⟩
where
  fz_ok (z : Int) : ∀ (R : List M), Okm R → Okm (fz z R)
  | [], _ => Okm.nil
  | m :: R, h => by
    unfold fz
    split
    · exact Okm.cons h.head (fz_ok z R h.tail)
    · exact fz_ok z R h.tail
end Go.Proofs.YtblmeoigjbnmiaaDoor.E
