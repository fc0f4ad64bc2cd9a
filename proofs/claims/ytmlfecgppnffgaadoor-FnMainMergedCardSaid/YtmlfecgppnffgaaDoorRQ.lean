import Derived.Test.YtmlfecgppnffgaaDoorRH
/- A least difference has no empty pieces behind DiffCleanupMerge; the form of merged differences. -/
set_option linter.unusedVariables false
set_option linter.unusedSimpArgs false
namespace Go.Proofs.YtmlfecgppnffgaaDoor.E
open Go.Ev
def NE (l : List M) : Prop := ∀ m ∈ l, m.2 ≠ []
theorem NE.nil : NE [] := fun m h => by cases h
theorem NE.app {a b : List M} (ha : NE a) (hb : NE b) : NE (a ++ b) := fun m hm => (List.mem_append.1 hm).elim (ha m) (hb m)
theorem NE.cons {m : M} {a : List M} (hm : m.2 ≠ []) (ha : NE a) : NE (m :: a) := fun x hx => (List.mem_cons.1 hx).elim (fun e => e ▸ hm) (ha x)
theorem NE.head {m : M} {a : List M} (h : NE (m :: a)) : m.2 ≠ [] := h m (List.mem_cons_self ..)
theorem NE.tail {m : M} {a : List M} (h : NE (m :: a)) : NE a := fun x hx => h x (List.mem_cons_of_mem _ hx)
def ND (D : Dn) : Prop := D = none ∨ ∃ D0 e, D = some (D0, e) ∧ NE D0 ∧ e ≠ []
theorem ND.toL {D : Dn} (h : ND D) : NE (toL D) := by
  rcases h with rfl | ⟨D0, e, rfl, h1, h2⟩
  · exact NE.nil
  · exact h1.app (NE.cons h2 NE.nil)
theorem push_ne {D : Dn} (h : ND D) (P : List Int) : NE (toL (pushP D P)) := by
  unfold pushP
  by_cases hP : P = []
  · rw [if_pos hP]
    exact h.toL
  · rw [if_neg hP]
    rcases h with rfl | ⟨D0, e, rfl, h1, h2⟩
    · exact NE.cons hP NE.nil
    · exact h1.app (NE.cons (by simp [hP]) NE.nil)
theorem sideD_ne : ∀ {R : List M}, NE R → cD R ≠ 0 → sideD R ≠ []
  | [], _, h => absurd rfl h
  | m :: R, hn, h => by
    simp only [cD] at h
    simp only [sideD]
    by_cases hm : m.1 = -1
    · rw [if_pos hm]
      have := hn.head
      simp [this]
    · rw [if_neg hm] at h ⊢
      exact sideD_ne hn.tail h
theorem sideI_ne : ∀ {R : List M}, NE R → cI R ≠ 0 → sideI R ≠ []
  | [], _, h => absurd rfl h
  | m :: R, hn, h => by
    simp only [cI] at h
    simp only [sideI]
    by_cases hm : m.1 = 1
    · rw [if_pos hm]
      have := hn.head
      simp [this]
    · rw [if_neg hm] at h ⊢
      exact sideI_ne hn.tail h
theorem mk_ne {c n : Nat} {d i : List Int} (h2 : 2 ≤ c + n) (hd : c ≠ 0 → d ≠ []) (hi : n ≠ 0 → i ≠ []) : NE (mk c n d i) := by
  unfold mk
  split
  · exact NE.cons (hi (by omega)) NE.nil
  · split
    · exact NE.cons (hd (by omega)) NE.nil
    · exact NE.cons (hd (by omega)) (NE.cons (hi (by omega)) NE.nil)
theorem step_ne {D : Dn} {R : List M} {x : List Int} (hD : ND D) (hn : NE R) (hR : Edits R) (hm : mc (toL D) + mc R ≤ mc (toL (stepE D R x))) : ∃ D0 e, stepE D R x = some (D0, e) ∧ NE D0 ∧ (x ≠ [] → e ≠ []) := by
  unfold stepE at hm ⊢
  by_cases h2 : 2 ≤ R.length
  · rw [if_pos h2] at hm ⊢
    obtain ⟨d, i, h1, e2, e3⟩ := nrm_spec R
    have l2 := congrArg List.length e2
    have l3 := congrArg List.length e3
    simp only [List.length_append] at l2 l3
    have hmk := mc_mk (cD R) (cI R) d i
    rw [toL_some, mc_app, mc_app, mc_push, h1, mc_side hR] at hm
    simp only [mc, if_pos] at hm
    have hP : (nrm R).1 = [] := List.eq_nil_of_length_eq_zero (by omega)
    have hS : (nrm R).2.2 = [] := List.eq_nil_of_length_eq_zero (by omega)
    rw [hP, hS, List.nil_append, List.append_nil] at e2 e3
    refine ⟨_, _, rfl, (push_ne hD _).app ?_, fun hx => by simp [hx]⟩
    rw [h1]
    refine mk_ne (by have := cDI hR; omega) (fun hc => ?_) (fun hc => ?_)
    · rw [← e2]
      exact sideD_ne hn hc
    · rw [← e3]
      exact sideI_ne hn hc
  · rw [if_neg h2]
    unfold one
    split
    · rename_i D0 e
      rcases hD with h | ⟨D1, e1, h, k1, k2⟩
      · cases h
      · cases h
        exact ⟨_, _, rfl, k1, fun hx => by simp [hx]⟩
    · exact ⟨_, _, rfl, hD.toL.app hn, fun hx => hx⟩
theorem pass1_ne : ∀ (S : List M) (D : Dn) (R : List M), ND D → NE R → NE S → Edits R → Typed S → mc (toL D) + mc R + mc S ≤ mc (pass1 D R (S ++ [(0, [])])) → ∃ D0 e, pass1 D R (S ++ [(0, [])]) = D0 ++ [(0, e)] ∧ NE D0
  | [], D, R, hD, hn, _, hR, _, hm => by
    have e1 : pass1 D R ([] ++ [(0, [])]) = toL (stepE D R []) := by
      show pass1 D R [(0, [])] = _
      rw [pass1, if_pos rfl, pass1, List.append_nil]
    rw [e1] at hm ⊢
    obtain ⟨D0, e, h1, h2, _⟩ := step_ne hD hn hR (by simp only [mc] at hm; omega)
    rw [h1]
    exact ⟨D0, e, rfl, h2⟩
  | m :: S, D, R, hD, hn, hS, hR, tT, hm => by
    have tTT : Typed (S ++ [((0 : Int), ([] : List Int))]) := tT.tail.app (Typed.cons (.inl rfl) Typed.nil)
    rw [List.cons_append, pass1] at hm ⊢
    by_cases h0 : m.1 = 0
    · rw [if_pos h0] at hm ⊢
      have b1 := pass1_mc (S ++ [(0, [])]) (stepE D R m.2) [] Edits.nil tTT
      have b2 := step_mc D R m.2 hR
      rw [mc_app] at b1
      simp only [mc, if_pos h0, if_pos] at hm b1
      obtain ⟨D0, e, h1, h2, h3⟩ := step_ne (x := m.2) hD hn hR (by omega)
      refine pass1_ne S (stepE D R m.2) [] (.inr ⟨D0, e, h1, h2, h3 hS.head⟩) NE.nil hS.tail Edits.nil tT.tail ?_
      simp only [mc]
      omega
    · rw [if_neg h0] at hm ⊢
      refine pass1_ne S D (R ++ [m]) hD (hn.app (NE.cons hS.head NE.nil)) hS.tail (hR.snoc ((tT m (List.mem_cons_self ..)).resolve_left h0)) tT.tail ?_
      rw [mc_app]
      simp only [mc, if_neg h0] at hm ⊢
      omega
theorem p1_ne {l : List M} (hn : NE l) (tT : Typed l) (hm : mc l ≤ mc (p1 l)) : NE (p1 l) := by
  have hle : mc (p1 l) ≤ mc (pass1 none [] (l ++ [(0, [])])) := by
    obtain ⟨D0, e, h⟩ : ∃ D0 e, pass1 none [] (l ++ [(0, [])]) = D0 ++ [((0 : Int), e)] := by
      have key : ∀ (S : List M) (D : Dn) (R : List M), ∃ D0 e, pass1 D R (S ++ [(0, [])]) = D0 ++ [((0 : Int), e)] := by
        intro S
        induction S with
        | nil =>
          intro D R
          obtain ⟨D0, e, h⟩ := step_some D R []
          refine ⟨D0, e, ?_⟩
          show pass1 D R [(0, [])] = _
          rw [pass1, if_pos rfl, pass1, List.append_nil, h]
          rfl
        | cons m S ih =>
          intro D R
          rw [List.cons_append, pass1]
          split
          · exact ih _ _
          · exact ih _ _
      exact key l none []
    unfold p1
    rw [h, cutEnd_snoc]
    split
    · rw [mc_app]
      simp [mc]
    · exact Nat.le_refl _
  obtain ⟨D0, e, h1, h2⟩ := pass1_ne l none [] (.inl rfl) NE.nil hn Edits.nil tT (by
    simp only [toL, mc]
    omega)
  unfold p1
  rw [h1, cutEnd_snoc]
  split
  · exact h2
  · rename_i he
    exact h2.app (NE.cons he NE.nil)
end Go.Proofs.YtmlfecgppnffgaaDoor.E
