import Derived.Test.YtblmeoigjbnmiaaDoorV5
/- The first pass of DiffCleanupMerge: the whole loop. -/
set_option linter.unusedVariables false
set_option linter.unusedSimpArgs false
namespace Go.Proofs.YtblmeoigjbnmiaaDoor.E
open Go.Ev
def Edits (R : List M) : Prop := ∀ m ∈ R, m.1 = 1 ∨ m.1 = -1
def Typed (R : List M) : Prop := ∀ m ∈ R, m.1 = 0 ∨ m.1 = 1 ∨ m.1 = -1
theorem Edits.nil : Edits [] := fun m h => by cases h
theorem Edits.snoc {R : List M} {m : M} (h : Edits R) (hm : m.1 = 1 ∨ m.1 = -1) : Edits (R ++ [m]) := fun x hx => (List.mem_append.1 hx).elim (h x) (fun hx => by simp at hx; subst hx; exact hm)
theorem cDI : ∀ {R : List M}, Edits R → cD R + cI R = R.length
  | [], _ => rfl
  | m :: R, h => by
    have ih := cDI (R := R) (fun x hx => h x (List.mem_cons_of_mem _ hx))
    rcases h m (List.mem_cons_self ..) with hm | hm <;> simp [cD, cI, hm] <;> omega
theorem cD_snoc (R : List M) (m : M) : cD (R ++ [m]) = cD R + (if m.1 = -1 then 1 else 0) := by
  induction R with
  | nil => simp [cD]
  | cons a R ih => simp only [List.cons_append, cD, ih]; split <;> omega
theorem cI_snoc (R : List M) (m : M) : cI (R ++ [m]) = cI R + (if m.1 = 1 then 1 else 0) := by
  induction R with
  | nil => simp [cI]
  | cons a R ih => simp only [List.cons_append, cI, ih]; split <;> omega
theorem sideD_app (R S : List M) : sideD (R ++ S) = sideD R ++ sideD S := by
  induction R with
  | nil => rfl
  | cons a R ih => simp only [List.cons_append, sideD, ih]; split <;> simp
theorem sideI_app (R S : List M) : sideI (R ++ S) = sideI R ++ sideI S := by
  induction R with
  | nil => rfl
  | cons a R ih => simp only [List.cons_append, sideI, ih]; split <;> simp
theorem side_wt : ∀ R : List M, (sideD R).length + (sideI R).length + R.length ≤ wt R
  | [] => Nat.le_refl _
  | m :: R => by
    have ih := side_wt R
    simp only [sideD, sideI, wt, List.length_cons]
    by_cases h1 : m.1 = -1
    · have h2 : ¬ m.1 = 1 := by omega
      simp only [if_pos h1, if_neg h2, List.length_append]; omega
    · by_cases h2 : m.1 = 1
      · simp only [if_neg h1, if_pos h2, List.length_append]; omega
      · simp only [if_neg h1, if_neg h2]; omega
theorem Okm.sideD {R : List M} (h : Okm R) : Okl (sideD R) := by
  induction R with
  | nil => exact Okl.nil
  | cons m R ih =>
    unfold E.sideD
    split
    · exact h.head.append (ih h.tail)
    · exact ih h.tail
theorem Okm.sideI {R : List M} (h : Okm R) : Okl (sideI R) := by
  induction R with
  | nil => exact Okl.nil
  | cons m R ih =>
    unfold E.sideI
    split
    · exact h.head.append (ih h.tail)
    · exact ih h.tail
theorem toL_some (D0 : List M) (e : List Int) : toL (some (D0, e)) = D0 ++ [(0, e)] := rfl
theorem edit_step (K k : Nat) (i0 : Int) (X : List TS0.den) (Dl R T : List M) (m : M) (hR : Edits R) (hm : m.1 = 1 ∨ m.1 = -1) (ho : Okl m.2) (hB : Dl.length + wt R + T.length + m.2.length ≤ 10000000) :
    DiffCleanupMerge_l0 K (k + 2) i0 X (enc (Dl ++ (R ++ m :: T))) ((Dl.length + R.length : Nat) : Int) (cD R : Int) (cI R : Int) (sideD R) (sideI R) =
    DiffCleanupMerge_l0 K k i0 X (enc (Dl ++ ((R ++ [m]) ++ T))) ((Dl.length + (R ++ [m]).length : Nat) : Int) (cD (R ++ [m]) : Int) (cI (R ++ [m]) : Int) (sideD (R ++ [m])) (sideI (R ++ [m])) := by
  have hw := side_wt R
  have hc := cDI hR
  have hl : (enc (Dl ++ (R ++ m :: T))).length = Dl.length + R.length + T.length + 1 := by rw [enc_len]; simp; omega
  rw [DiffCleanupMerge_l0_eq, hl, br_lt (by omega), DiffCleanupMerge_j0_eq, hl, show Dl ++ (R ++ m :: T) = (Dl ++ R) ++ m :: T by simp, nth_enc (Dl ++ R) T m _ (by simp)]
  simp only []
  rw [runesI_of ho, cD_snoc, cI_snoc, sideD_app, sideI_app]
  rcases hm with hm | hm
  · have h2 : ¬ m.1 = -1 := by omega
    simp (disch := omega) only [chk_le, chk_lt, chk_eq, chk_nle, chk_neq, br_lt, br_ge, br_le, br_gt, br_eq, br_ne, br_not, br_true, br_false, br_and, wrap_id, obs, List.length_set, List.length_append, List.length_cons, List.length_nil, List.length_take, List.length_drop]
    simp only [sideD, sideI, if_pos hm, if_neg h2, List.append_nil, Nat.add_zero]
    rw [show (Dl ++ R) ++ m :: T = Dl ++ ((R ++ [m]) ++ T) by simp]
    rfl
  · have h2 : ¬ m.1 = 1 := by omega
    simp (disch := omega) only [chk_le, chk_lt, chk_eq, chk_nle, chk_neq, br_lt, br_ge, br_le, br_gt, br_eq, br_ne, br_not, br_true, br_false, br_and, wrap_id, obs, List.length_set, List.length_append, List.length_cons, List.length_nil, List.length_take, List.length_drop]
    simp only [sideD, sideI, if_pos hm, if_neg h2, List.append_nil, Nat.add_zero]
    rw [show (Dl ++ R) ++ m :: T = Dl ++ ((R ++ [m]) ++ T) by simp]
    rfl
theorem eq_step (K k : Nat) (i0 : Int) (X : List TS0.den) (D : Dn) (R T : List M) (x : List Int) (hR : Edits R) (oD : Okm (toL D)) (oR : Okm R) (ox : Okl x) (hB : wt (toL D) + wt R + T.length + x.length ≤ 1000000) (hK : 2 * wt R + 10 ≤ K) :
    ∃ k', k ≤ k' ∧ DiffCleanupMerge_l0 K (k + 8) i0 X (enc (toL D ++ (R ++ (0, x) :: T))) (((toL D).length + R.length : Nat) : Int) (cD R : Int) (cI R : Int) (sideD R) (sideI R) =
    DiffCleanupMerge_l0 K k' i0 X (enc (toL (stepE D R x) ++ T)) ((toL (stepE D R x)).length : Int) 0 0 [] [] := by
  have hw := side_wt R
  have hwD := wt_len (toL D)
  have hc := cDI hR
  have hl : (enc (toL D ++ (R ++ (0, x) :: T))).length = (toL D).length + R.length + T.length + 1 := by rw [enc_len]; simp; omega
  rw [DiffCleanupMerge_l0_eq, hl, br_lt (by omega), DiffCleanupMerge_j0_eq, hl]
  rw [show nth TS1 (enc (toL D ++ (R ++ (0, x) :: T))) (((toL D).length + R.length : Nat) : Int) = ((0 : Int), strOfRunes x) by
    rw [show toL D ++ (R ++ (0, x) :: T) = (toL D ++ R) ++ (0, x) :: T by simp]; exact nth_enc _ _ _ _ (by simp)]
  simp only []
  rw [chk_le (by omega), chk_lt (by omega), br_ne (by omega), br_ne (by omega), br_eq rfl]
  by_cases h2 : 2 ≤ R.length
  · rw [br_lt (by rw [wrap_id (by omega) (by omega)]; omega)]
    have hst : stepE D R x = some (toL (pushP D (nrm R).1) ++ (nrm R).2.1, (nrm R).2.2 ++ x) := if_pos h2
    rw [hst, toL_some]
    by_cases hz : cD R = 0 ∨ cI R = 0
    · have hn : nrm R = ([], mk (cD R) (cI R) (sideD R) (sideI R), []) := if_pos hz
      rw [hn]
      have hp : pushP D [] = D := if_pos rfl
      simp only [hp, List.nil_append]
      have hj2 : br (!eqI (cD R : Int) 0) (DiffCleanupMerge_j2 K (k + 6) i0 X (enc (toL D ++ (R ++ (0, x) :: T))) (((toL D).length + R.length : Nat) : Int) (cD R : Int) (cI R : Int) (sideD R) (sideI R) (!eqI (cI R : Int) 0)) (DiffCleanupMerge_j2 K (k + 6) i0 X (enc (toL D ++ (R ++ (0, x) :: T))) (((toL D).length + R.length : Nat) : Int) (cD R : Int) (cI R : Int) (sideD R) (sideI R) false) =
          DiffCleanupMerge_j7 K (k + 5) i0 X (enc (toL D ++ (R ++ (0, x) :: T))) (((toL D).length + R.length : Nat) : Int) (cD R : Int) (cI R : Int) (sideD R) (sideI R) := by
        rcases hz with hz | hz
        · rw [br_not, br_eq (by omega), DiffCleanupMerge_j2_eq, br_false]
        · by_cases hz' : cD R = 0
          · rw [br_not, br_eq (by omega), DiffCleanupMerge_j2_eq, br_false]
          · rw [br_not, br_ne (by omega), DiffCleanupMerge_j2_eq, br_not, br_eq (by omega)]
      rw [hj2, show (toL D).length + R.length = (toL D).length + (cD R + cI R) by omega]
      refine ⟨k + 2, by omega, ?_⟩
      rw [j7_ok K (k + 2) i0 X (toL D) R ((0, x) :: T) (cD R) (cI R) _ _ (by omega) (by omega) (by simp; omega) (by omega)]
      simp only [List.append_assoc, List.cons_append, List.nil_append, List.length_append, List.length_cons, List.length_nil]
      all_goals first | rfl | (congr 1; omega)
    · have hz1 : cD R ≠ 0 := fun h => hz (.inl h)
      have hz2 : cI R ≠ 0 := fun h => hz (.inr h)
      rw [br_not, br_ne (by omega), DiffCleanupMerge_j2_eq, br_not, br_ne (by omega), cpl_ok K _ _ (by omega) (by omega)]
      simp only [obs]
      have hle := cpl_le (sideI R) (sideD R)
      have hn : nrm R = (_, _, _) := if_neg hz
      rw [hn]
      simp only []
      by_cases hp : cpl (sideI R) (sideD R) = 0
      · rw [br_not, br_eq (by omega), show (toL D).length + R.length = (toL D).length + (cD R + cI R) by omega]
        refine ⟨k + 1, by omega, ?_⟩
        rw [j6_ok K (k + 1) i0 X (toL D) R T 0 x (cD R) (cI R) _ _ (by omega) hz1 hz2 (by omega) oR.sideI ox (by omega)]
        have hpp : pushP D ((sideI R).take (cpl (sideI R) (sideD R))) = D := by rw [hp, List.take_zero]; exact if_pos rfl
        rw [hpp, hp, List.drop_zero, List.drop_zero]
        simp only [List.append_assoc, List.cons_append, List.nil_append, List.length_append, List.length_cons, List.length_nil]
        all_goals first | rfl | (congr 1; omega)
      · rw [br_not, br_ne (by omega)]
        have hpne : (sideI R).take (cpl (sideI R) (sideD R)) ≠ [] := by
          intro h
          have := congrArg List.length h
          rw [List.length_take, List.length_nil] at this
          omega
        have w1 : IntKind.i64.wrap (IntKind.i64.wrap ((((toL D).length + R.length : Nat) : Int) - (cD R : Int)) - (cI R : Int)) = ((toL D).length : Int) := by
          simp (disch := omega) only [chk_le, chk_lt, chk_eq, chk_nle, chk_neq, br_lt, br_ge, br_le, br_gt, br_eq, br_ne, br_not, br_true, br_false, br_and, wrap_id, obs, List.length_set, List.length_append, List.length_cons, List.length_nil, List.length_take, List.length_drop]
          omega
        rw [w1]
        match D, oD, hB, hwD, hl, hst, w1 with
        | none, oD, hB, hwD, hl, hst, w1 =>
          rw [br_ge (by simp [toL])]
          rw [show pushP none ((sideI R).take (cpl (sideI R) (sideD R))) = some ([], (sideI R).take (cpl (sideI R) (sideD R))) from if_neg hpne]
          simp only [toL, List.nil_append, List.length_nil, Nat.zero_add] at *
          refine ⟨k, by omega, ?_⟩
          have := j5_false K k i0 X R T 0 x (cD R) (cI R) (cpl (sideI R) (sideD R)) (sideD R) (sideI R) ((0 : Nat) : Int) (by omega) hz1 hz2 hle.1 hle.2 (by omega) oR.sideI ox (by omega)
          rw [Nat.zero_add, hc] at this
          refine this.trans ?_
          simp only [List.append_assoc, List.cons_append, List.nil_append, List.length_append, List.length_cons, List.length_nil]
          all_goals first | rfl | (congr 1; omega)
        | some (D0, e), oD, hB, hwD, hl, hst, w1 =>
          rw [show pushP (some (D0, e)) ((sideI R).take (cpl (sideI R) (sideD R))) = some (D0, e ++ (sideI R).take (cpl (sideI R) (sideD R))) from if_neg hpne]
          simp only [toL, wt_app, wt, List.length_append, List.length_cons, List.length_nil] at *
          have w2 : IntKind.i64.wrap (((D0.length + (0 + 1) : Nat) : Int) - 1) = (D0.length : Int) := by rw [wrap_id (by omega) (by omega)]; omega
          rw [br_lt (by omega), w2, show D0 ++ [(0, e)] ++ (R ++ (0, x) :: T) = D0 ++ (0, e) :: (R ++ (0, x) :: T) by simp, nth_enc D0 _ (0, e) _ rfl]
          have hl' : (enc (D0 ++ (0, e) :: (R ++ (0, x) :: T))).length = D0.length + R.length + T.length + 2 := by rw [enc_len]; simp; omega
          simp only []
          rw [eqI_t rfl, chk_le (by omega), chk_lt (by omega)]
          refine ⟨k, by omega, ?_⟩
          have hwe := wt_len D0
          have := j5_true K k i0 X D0 R T e 0 x (cD R) (cI R) (cpl (sideI R) (sideD R)) (sideD R) (sideI R) (by omega) hz1 hz2 hle.1 hle.2 (by omega) oR.sideI ox (oD.right).head (by omega)
          rw [hc, show D0 ++ [(0, e)] ++ (R ++ (0, x) :: T) = D0 ++ (0, e) :: (R ++ (0, x) :: T) by simp] at this
          refine this.trans ?_
          simp only [List.append_assoc, List.cons_append, List.nil_append, List.length_append, List.length_cons, List.length_nil]
          all_goals first | rfl | (congr 1; omega)
  · rw [br_ge (by rw [wrap_id (by omega) (by omega)]; omega)]
    have hst : stepE D R x = one D R x := if_neg h2
    rw [hst]
    match R, hR, oR, hB, hK, hw, hc, hl, h2 with
    | [], hR, oR, hB, hK, hw, hc, hl, h2 =>
      match D, oD, hB, hwD, hl with
      | none, oD, hB, hwD, hl =>
        simp only [toL, List.nil_append, List.length_nil, Nat.add_zero] at *
        rw [br_not, br_eq (by omega)]
        refine ⟨k + 5, by omega, ?_⟩
        have := j3_false K (k + 5) i0 X (enc ((0, x) :: T)) 0 (by omega)
        exact this
      | some (D0, e), oD, hB, hwD, hl =>
        simp only [toL, wt_app, wt, List.length_append, List.length_cons, List.length_nil, List.nil_append, Nat.add_zero, one] at *
        have w2 : IntKind.i64.wrap (((D0.length + (0 + 1) : Nat) : Int) - 1) = (D0.length : Int) := by rw [wrap_id (by omega) (by omega)]; omega
        have hwe := wt_len D0
        rw [br_not, br_ne (by omega), w2, show D0 ++ [(0, e)] ++ (0, x) :: T = D0 ++ (0, e) :: (0, x) :: T by simp, nth_enc D0 _ (0, e) _ rfl]
        simp only []
        rw [eqI_t rfl, chk_le (by omega), chk_lt (by omega)]
        refine ⟨k + 5, by omega, ?_⟩
        have := j3_true K (k + 5) i0 X D0 e x T (oD.right).head ox (by omega)
        refine this.trans ?_
        rw [show D0 ++ (0, e ++ x) :: T = D0 ++ [(0, e ++ x)] ++ T by simp]
    | [m], hR, oR, hB, hK, hw, hc, hl, h2 =>
      have ho : one D [m] x = some (toL D ++ [m], x) := by cases D <;> rfl
      rw [ho, toL_some]
      simp only [List.length_append, List.length_cons, List.length_nil] at *
      rw [br_not, br_ne (by omega)]
      have w2 : IntKind.i64.wrap ((((toL D).length + (0 + 1) : Nat) : Int) - 1) = ((toL D).length : Int) := by rw [wrap_id (by omega) (by omega)]; omega
      have hm := hR m (List.mem_cons_self ..)
      rw [w2, show toL D ++ ([m] ++ (0, x) :: T) = toL D ++ m :: (0, x) :: T by simp, nth_enc (toL D) _ m _ rfl]
      simp only []
      rw [eqI_f (by omega), chk_le (by omega), chk_lt (by omega)]
      refine ⟨k + 5, by omega, ?_⟩
      have := j3_false K (k + 5) i0 X (enc (toL D ++ m :: (0, x) :: T)) ((toL D).length + (0 + 1)) (by omega)
      refine this.trans ?_
      rw [show toL D ++ m :: (0, x) :: T = toL D ++ [m] ++ [(0, x)] ++ T by simp]
    | _ :: _ :: _, hR, oR, hB, hK, hw, hc, hl, h2 => exact absurd (by simp) h2
end Go.Proofs.YtblmeoigjbnmiaaDoor.E
