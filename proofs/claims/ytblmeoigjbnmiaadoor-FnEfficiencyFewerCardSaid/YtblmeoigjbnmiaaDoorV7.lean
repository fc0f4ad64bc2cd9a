import Derived.Test.YtblmeoigjbnmiaaDoorV6
/- What the first pass keeps. -/
set_option linter.unusedVariables false
set_option linter.unusedSimpArgs false
namespace Go.Proofs.YtblmeoigjbnmiaaDoor.E
open Go.Ev
/-- What is left of a list without the edits of one type. -/
def side (z : Int) : List M → List Int
  | [] => []
  | m :: l => if m.1 = z then side z l else m.2 ++ side z l
theorem side_app (z : Int) : ∀ a b : List M, side z (a ++ b) = side z a ++ side z b
  | [], b => rfl
  | m :: a, b => by simp only [List.cons_append, side, side_app z a b]; split <;> simp
/-- Characters of edits, and a mark for each equality. -/
def mu : List M → Nat
  | [] => 0
  | m :: l => (if m.1 = 0 then 1 else m.2.length) + mu l
theorem mu_app : ∀ a b : List M, mu (a ++ b) = mu a + mu b
  | [], b => by simp [mu]
  | m :: a, b => by simp only [List.cons_append, mu, mu_app a b]; omega
theorem side_D : ∀ {R : List M}, Edits R → side 1 R = sideD R ∧ side (-1) R = sideI R ∧ mu R = (sideD R).length + (sideI R).length
  | [], _ => ⟨rfl, rfl, rfl⟩
  | m :: R, h => by
    obtain ⟨h1, h2, h3⟩ := side_D (R := R) (fun x hx => h x (List.mem_cons_of_mem _ hx))
    rcases h m (List.mem_cons_self ..) with hm | hm <;> simp [side, sideD, sideI, mu, hm, h1, h2, h3] <;> omega
theorem cD_0 {R : List M} (h : cD R = 0) : sideD R = [] := by
  induction R with
  | nil => rfl
  | cons m R ih =>
    unfold cD at h
    unfold sideD
    by_cases hm : m.1 = -1
    · rw [if_pos hm] at h; omega
    · rw [if_neg hm] at h; rw [if_neg hm]; exact ih h
theorem cI_0 {R : List M} (h : cI R = 0) : sideI R = [] := by
  induction R with
  | nil => rfl
  | cons m R ih =>
    unfold cI at h
    unfold sideI
    by_cases hm : m.1 = 1
    · rw [if_pos hm] at h; omega
    · rw [if_neg hm] at h; rw [if_neg hm]; exact ih h
theorem nrm_spec (R : List M) : ∃ d i, (nrm R).2.1 = mk (cD R) (cI R) d i ∧ sideD R = (nrm R).1 ++ (d ++ (nrm R).2.2) ∧ sideI R = (nrm R).1 ++ (i ++ (nrm R).2.2) := by
  by_cases h : cD R = 0 ∨ cI R = 0
  · have e : nrm R = ([], mk (cD R) (cI R) (sideD R) (sideI R), []) := if_pos h
    rw [e]
    exact ⟨sideD R, sideI R, rfl, by simp, by simp⟩
  · have e : nrm R = (_, _, _) := if_neg h
    rw [e]
    refine ⟨_, _, rfl, ?_, ?_⟩
    · rw [csl_drop, List.take_append_drop, cpl_take, List.take_append_drop]
    · rw [List.take_append_drop, List.take_append_drop]
theorem side_mk (c n : Nat) (d i : List Int) (hd : c = 0 → d = []) (hi : n = 0 → i = []) : side 1 (mk c n d i) = d ∧ side (-1) (mk c n d i) = i ∧ wt (mk c n d i) ≤ d.length + i.length + 2 ∧ mu (mk c n d i) = d.length + i.length := by
  unfold mk
  by_cases hc : c = 0
  · simp [hc, side, hd hc, wt, mu]
  · by_cases hn : n = 0
    · simp [hc, hn, side, hi hn, wt, mu]
    · simp [hc, hn, side, wt, mu]; omega
theorem toL_push (D : Dn) (P : List Int) (z : Int) (hz : z ≠ 0) : side z (toL (pushP D P)) = side z (toL D) ++ P ∧ wt (toL (pushP D P)) ≤ wt (toL D) + 2 * P.length ∧ mu (toL (pushP D P)) ≤ mu (toL D) + P.length := by
  have hz' : ¬ (0 : Int) = z := fun h => hz h.symm
  by_cases hP : P = []
  · subst hP
    have e : pushP D [] = D := if_pos rfl
    rw [e]
    simp
  · have hl : 0 < P.length := List.length_pos_iff.2 hP
    match D with
    | none =>
      have e : pushP none P = some ([], P) := if_neg hP
      rw [e]
      simp [toL, side, hz', wt, mu]; omega
    | some (D0, e0) =>
      have e : pushP (some (D0, e0)) P = some (D0, e0 ++ P) := if_neg hP
      rw [e]
      simp [toL, side_app, side, hz', wt_app, wt, mu_app, mu]; omega
theorem step_side (D : Dn) (R : List M) (x : List Int) (hR : Edits R) (z : Int) (hz : z = 1 ∨ z = -1) : side z (toL (stepE D R x)) = side z (toL D) ++ (side z R ++ x) := by
  have hz0 : z ≠ 0 := by omega
  have hz' : ¬ (0 : Int) = z := fun h => hz0 h.symm
  unfold stepE
  split
  · obtain ⟨d, i, h1, h2, h3⟩ := nrm_spec R
    obtain ⟨s1, s2, _⟩ := side_D hR
    rw [toL_some, side_app, side_app, (toL_push D _ z hz0).1, h1]
    have hm := side_mk (cD R) (cI R) d i (fun h => by rw [cD_0 h] at h2; have := congrArg List.length h2; simp only [List.length_append, List.length_nil] at this; exact List.eq_nil_of_length_eq_zero (by omega)) (fun h => by rw [cI_0 h] at h3; have := congrArg List.length h3; simp only [List.length_append, List.length_nil] at this; exact List.eq_nil_of_length_eq_zero (by omega))
    rcases hz with rfl | rfl
    · rw [hm.1, s1, h2]; simp [side]
    · rw [hm.2.1, s2, h3]; simp [side]
  · unfold one
    split
    · simp [toL, side_app, side, hz']
    · simp [toL_some, side_app, side, hz']
theorem step_wt (D : Dn) (R : List M) (x : List Int) (hR : Edits R) : wt (toL (stepE D R x)) ≤ wt (toL D) + wt R + (x.length + 1) ∧ mu (toL (stepE D R x)) ≤ mu (toL D) + mu R + 1 := by
  unfold stepE
  split
  · rename_i h
    obtain ⟨d, i, h1, h2, h3⟩ := nrm_spec R
    obtain ⟨_, _, s3⟩ := side_D hR
    have hw := side_wt R
    have hp := toL_push D (nrm R).1 1 (by omega)
    have hm := side_mk (cD R) (cI R) d i (fun h => by rw [cD_0 h] at h2; have := congrArg List.length h2; simp only [List.length_append, List.length_nil] at this; exact List.eq_nil_of_length_eq_zero (by omega)) (fun h => by rw [cI_0 h] at h3; have := congrArg List.length h3; simp only [List.length_append, List.length_nil] at this; exact List.eq_nil_of_length_eq_zero (by omega))
    have l2 := congrArg List.length h2
    have l3 := congrArg List.length h3
    simp only [List.length_append] at l2 l3
    rw [toL_some, wt_app, wt_app, mu_app, mu_app, h1]
    simp only [wt, mu, List.length_append, if_pos]
    omega
  · unfold one
    split
    · simp [toL, wt_app, wt, mu_app, mu]; omega
    · simp [toL_some, wt_app, wt, mu_app, mu]; omega
/-- Where the last equality is not empty, the empty one at the end has cost nothing. -/
theorem step_last (D : Dn) (R : List M) (hR : Edits R) (D0 : List M) (e : List Int) (h : stepE D R [] = some (D0, e)) (he : e ≠ []) : mu (toL (stepE D R [])) ≤ mu (toL D) + mu R := by
  unfold stepE at h ⊢
  split at h
  · rename_i hR2
    rw [if_pos hR2]
    obtain ⟨d, i, h1, h2, h3⟩ := nrm_spec R
    obtain ⟨_, _, s3⟩ := side_D hR
    have hp := toL_push D (nrm R).1 1 (by omega)
    have hm := side_mk (cD R) (cI R) d i (fun h => by rw [cD_0 h] at h2; have := congrArg List.length h2; simp only [List.length_append, List.length_nil] at this; exact List.eq_nil_of_length_eq_zero (by omega)) (fun h => by rw [cI_0 h] at h3; have := congrArg List.length h3; simp only [List.length_append, List.length_nil] at this; exact List.eq_nil_of_length_eq_zero (by omega))
    have l2 := congrArg List.length h2
    have l3 := congrArg List.length h3
    simp only [List.length_append] at l2 l3
    have hS : (nrm R).2.2 ≠ [] := by
      intro h0
      cases h
      rw [h0] at he
      exact he rfl
    have hl : 0 < (nrm R).2.2.length := List.length_pos_iff.2 hS
    rw [toL_some, mu_app, mu_app, h1]
    simp only [mu, if_pos]
    omega
  · rename_i hR2
    rw [if_neg hR2]
    unfold one at h ⊢
    split at h
    · simp [toL, mu_app, mu]
    · cases h
      exact absurd rfl he
theorem toL_ok {D : Dn} {P : List Int} (h : Okm (toL D)) (hP : Okl P) : Okm (toL (pushP D P)) := by
  unfold pushP
  split
  · exact h
  · match D, h with
    | none, h => exact Okm.cons hP Okm.nil
    | some (D0, e), h => exact h.left.app (Okm.cons (h.right.head.append hP) Okm.nil)
theorem mk_ok {c n : Nat} {d i : List Int} (hd : Okl d) (hi : Okl i) : Okm (mk c n d i) := by
  unfold mk
  split
  · exact Okm.cons hi Okm.nil
  · split
    · exact Okm.cons hd Okm.nil
    · exact Okm.cons hd (Okm.cons hi Okm.nil)
theorem step_ok {D : Dn} {R : List M} {x : List Int} (hD : Okm (toL D)) (hR : Okm R) (hx : Okl x) : Okm (toL (stepE D R x)) := by
  unfold stepE
  split
  · obtain ⟨d, i, h1, h2, h3⟩ := nrm_spec R
    have o1 := hR.sideD
    have o2 := hR.sideI
    rw [h2] at o1
    rw [h3] at o2
    rw [toL_some, h1]
    exact ((toL_ok hD o1.left).app (mk_ok o1.right.left o2.right.left)).app (Okm.cons (o1.right.right.append hx) Okm.nil)
  · unfold one
    split
    · exact hD.left.app (Okm.cons (hD.right.head.append hx) Okm.nil)
    · exact (hD.app hR).app (Okm.cons hx Okm.nil)
theorem Typed.left {a b : List M} (h : Typed (a ++ b)) : Typed a := fun m hm => h m (List.mem_append.2 (.inl hm))
theorem Typed.right {a b : List M} (h : Typed (a ++ b)) : Typed b := fun m hm => h m (List.mem_append.2 (.inr hm))
theorem Typed.app {a b : List M} (ha : Typed a) (hb : Typed b) : Typed (a ++ b) := fun m hm => (List.mem_append.1 hm).elim (ha m) (hb m)
theorem Typed.nil : Typed [] := fun m h => by cases h
theorem Typed.cons {m : M} {a : List M} (hm : m.1 = 0 ∨ m.1 = 1 ∨ m.1 = -1) (ha : Typed a) : Typed (m :: a) := fun x hx => (List.mem_cons.1 hx).elim (fun e => e ▸ hm) (ha x)
theorem Typed.tail {m : M} {a : List M} (h : Typed (m :: a)) : Typed a := fun x hx => h x (List.mem_cons_of_mem _ hx)
theorem Edits.typed {R : List M} (h : Edits R) : Typed R := fun m hm => .inr (h m hm)
theorem mk_edits (c n : Nat) (d i : List Int) : Edits (mk c n d i) := by
  unfold mk
  split
  · intro m hm; simp at hm; subst hm; simp
  · split
    · intro m hm; simp at hm; subst hm; simp
    · intro m hm; simp at hm; rcases hm with rfl | rfl <;> simp
theorem step_typed {D : Dn} {R : List M} {x : List Int} (hD : Typed (toL D)) (hR : Edits R) : Typed (toL (stepE D R x)) := by
  have hz : ∀ e : List Int, Typed [((0 : Int), e)] := fun e => Typed.cons (.inl rfl) Typed.nil
  unfold stepE
  split
  · obtain ⟨d, i, h1, _, _⟩ := nrm_spec R
    rw [toL_some, h1]
    refine (Typed.app ?_ (mk_edits _ _ _ _).typed).app (hz _)
    unfold pushP
    split
    · exact hD
    · match D, hD with
      | none, _ => exact hz _
      | some (D0, e), hD => exact hD.left.app (hz _)
  · unfold one
    split
    · exact hD.left.app (hz _)
    · exact (hD.app hR.typed).app (hz _)
theorem step_some (D : Dn) (R : List M) (x : List Int) : ∃ D0 e, stepE D R x = some (D0, e) := by
  unfold stepE
  split
  · exact ⟨_, _, rfl⟩
  · unfold one
    split <;> exact ⟨_, _, rfl⟩
/-- The first pass over a list that ends with an empty equality. -/
theorem pass1_ends : ∀ (T : List M) (D : Dn) (R : List M), Edits R → Typed T → Okm (toL D) → Okm R → Okm T → Typed (toL D) →
    ∃ D0 e, pass1 D R (T ++ [(0, [])]) = D0 ++ [(0, e)] ∧ Okm (D0 ++ [(0, e)]) ∧ Typed (D0 ++ [(0, e)]) ∧ (∀ z, z = 1 ∨ z = -1 → side z (D0 ++ [(0, e)]) = side z (toL D) ++ (side z R ++ side z T)) ∧
      wt (D0 ++ [(0, e)]) ≤ wt (toL D) + wt R + wt T + 1 ∧ mu (D0 ++ [(0, e)]) ≤ mu (toL D) + mu R + mu T + 1 ∧ (e ≠ [] → mu (D0 ++ [(0, e)]) ≤ mu (toL D) + mu R + mu T)
  | [], D, R, hR, _, oD, oR, _, tD => by
    obtain ⟨D0, e, h⟩ := step_some D R []
    refine ⟨D0, e, ?_⟩
    have h1 := step_ok oD oR (x := []) Okl.nil
    have h2 := step_typed (x := []) tD hR
    have h3 := step_side D R [] hR
    have h4 := step_wt D R [] hR
    have h5 := step_last D R hR D0 e h
    rw [h, toL_some] at h1 h2 h3 h4 h5
    refine ⟨?_, h1, h2, fun z hz => by rw [h3 z hz]; rfl, by simpa [wt] using h4.1, by simpa [mu] using h4.2, by simpa [mu] using h5⟩
    show pass1 (stepE D R []) [] [] = _
    rw [h]
    simp [pass1, toL]
  | m :: T, D, R, hR, tT, oD, oR, oT, tD => by
    by_cases hm : m.1 = 0
    · obtain ⟨D0, e, h1, h2, h3, h4, h5, h6, h7⟩ := pass1_ends T (stepE D R m.2) [] Edits.nil tT.tail (step_ok oD oR oT.head) Okm.nil oT.tail (step_typed tD hR)
      have k1 := step_wt D R m.2 hR
      simp only [wt, mu, if_pos hm] at *
      refine ⟨D0, e, ?_, h2, h3, fun z hz => ?_, by omega, by omega, fun he => by have := h7 he; omega⟩
      · show pass1 D R (m :: (T ++ [(0, [])])) = _
        rw [pass1, if_pos hm]
        exact h1
      · rw [h4 z hz, step_side D R m.2 hR z hz]
        have : ¬ m.1 = z := by omega
        simp [side, this]
    · have hme : m.1 = 1 ∨ m.1 = -1 := (tT m (List.mem_cons_self ..)).resolve_left hm
      obtain ⟨D0, e, h1, h2, h3, h4, h5, h6, h7⟩ := pass1_ends T D (R ++ [m]) (hR.snoc hme) tT.tail oD (oR.app (Okm.cons oT.head Okm.nil)) oT.tail tD
      have wR : wt (R ++ [m]) = wt R + (m.2.length + 1) := by rw [wt_app]; simp [wt]
      have mR : mu (R ++ [m]) = mu R + m.2.length := by rw [mu_app]; simp [mu, hm]
      have wT : wt (m :: T) = m.2.length + 1 + wt T := rfl
      have mT : mu (m :: T) = m.2.length + mu T := by simp [mu, hm]
      refine ⟨D0, e, ?_, h2, h3, fun z hz => ?_, by omega, by omega, fun he => by have := h7 he; omega⟩
      · show pass1 D R (m :: (T ++ [(0, [])])) = _
        rw [pass1, if_neg hm]
        exact h1
      · rw [h4 z hz, side_app]
        simp only [side]
        split <;> simp
end Go.Proofs.YtblmeoigjbnmiaaDoor.E
