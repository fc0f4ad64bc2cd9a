import Derived.Test.YtmlfecgppnffgaaDoorRA
/- Characters of edits: no more behind DiffCleanupMerge. -/
set_option linter.unusedVariables false
set_option linter.unusedSimpArgs false
namespace Go.Proofs.YtmlfecgppnffgaaDoor.E
open Go.Ev
/-- Characters of edits; how many edits. -/
def mc : List M → Nat
  | [] => 0
  | m :: l => (if m.1 = 0 then 0 else m.2.length) + mc l
def cnt : List M → Nat
  | [] => 0
  | m :: l => (if m.1 = 0 then 0 else 1) + cnt l
theorem mc_app : ∀ a b : List M, mc (a ++ b) = mc a + mc b
  | [], b => by simp [mc]
  | m :: a, b => by simp only [List.cons_append, mc, mc_app a b]; omega
theorem mc_side : ∀ {R : List M}, Edits R → mc R = (sideD R).length + (sideI R).length
  | [], _ => rfl
  | m :: R, h => by
    have ih := mc_side (R := R) (fun x hx => h x (List.mem_cons_of_mem _ hx))
    rcases h m (List.mem_cons_self ..) with hm | hm <;> simp [mc, sideD, sideI, hm, ih] <;> omega
theorem mc_mk (c n : Nat) (d i : List Int) : mc (mk c n d i) ≤ d.length + i.length := by
  unfold mk
  by_cases hc : c = 0
  · simp [hc, mc]
  · by_cases hn : n = 0
    · simp [hc, hn, mc]
    · simp [hc, hn, mc]
theorem mc_push (D : Dn) (P : List Int) : mc (toL (pushP D P)) = mc (toL D) := by
  unfold pushP
  split
  · rfl
  · match D with
    | none => rfl
    | some (D0, e) => simp [toL, mc_app, mc]
theorem step_mc (D : Dn) (R : List M) (x : List Int) (hR : Edits R) : mc (toL (stepE D R x)) ≤ mc (toL D) + mc R := by
  unfold stepE
  split
  · obtain ⟨d, i, h1, h2, h3⟩ := nrm_spec R
    have l2 := congrArg List.length h2
    have l3 := congrArg List.length h3
    simp only [List.length_append] at l2 l3
    have := mc_mk (cD R) (cI R) d i
    rw [toL_some, mc_app, mc_app, mc_push, h1, mc_side hR]
    simp only [mc, if_pos]
    omega
  · unfold one
    split
    · simp [toL, mc_app, mc]
    · simp [toL_some, mc_app, mc]
theorem pass1_mc : ∀ (T : List M) (D : Dn) (R : List M), Edits R → Typed T → mc (pass1 D R T) ≤ mc (toL D) + mc R + mc T
  | [], D, R, _, _ => by rw [pass1, mc_app]; simp [mc]
  | m :: T, D, R, hR, tT => by
    rw [pass1]
    by_cases hm : m.1 = 0
    · rw [if_pos hm]
      have h1 := pass1_mc T (stepE D R m.2) [] Edits.nil tT.tail
      have h2 := step_mc D R m.2 hR
      simp only [mc, if_pos hm] at *
      omega
    · rw [if_neg hm]
      have h1 := pass1_mc T D (R ++ [m]) (hR.snoc ((tT m (List.mem_cons_self ..)).resolve_left hm)) tT.tail
      rw [mc_app] at h1
      simp only [mc, if_neg hm] at *
      omega
theorem p1_mc (l : List M) (tT : Typed l) (oT : Okm l) : mc (p1 l) ≤ mc l := by
  obtain ⟨D0, e, h1, _⟩ := p1_spec l tT oT
  have h2 := pass1_mc (l ++ [(0, [])]) none [] Edits.nil (tT.app (Typed.cons (.inl rfl) Typed.nil))
  rw [h1, mc_app, mc_app] at h2
  unfold p1
  rw [h1, cutEnd_snoc]
  simp only [mc, toL, if_pos] at h2
  split
  · omega
  · rw [mc_app]; simp only [mc, if_pos]; omega
theorem p2_mc : ∀ (n : Nat) (l : List M), l.length ≤ n → mc (p2 l).1 = mc l ∧ cnt (p2 l).1 = cnt l
  | n, l, hl => by
    by_cases h3 : l.length ≤ 2
    · rw [p2_short l h3]; exact ⟨rfl, rfl⟩
    · obtain ⟨a, b, c, B, rfl⟩ := three h3
      simp only [List.length_cons] at hl
      obtain ⟨n, rfl⟩ : ∃ m, n = m + 1 := ⟨n - 1, by omega⟩
      have skip := p2_mc n (b :: c :: B) (by simp; omega)
      by_cases hac : a.1 = 0 ∧ c.1 = 0
      · by_cases hs : a.2 <:+ b.2
        · obtain ⟨q, hq⟩ := hs
          have hp : p2 (a :: b :: c :: B) = ((b.1, a.2 ++ q) :: (p2 ((c.1, a.2 ++ c.2) :: B)).1, true) := by
            rw [p2, if_pos hac, if_pos ⟨q, hq⟩, ← hq]
            simp
          have ih := p2_mc n ((c.1, a.2 ++ c.2) :: B) (by simp; omega)
          have hlen : b.2.length = q.length + a.2.length := by rw [← hq, List.length_append]
          rw [hp]
          simp only [mc, cnt, ih.1, ih.2, if_pos hac.1, if_pos hac.2, List.length_append, hlen]
          exact ⟨by split <;> omega, by omega⟩
        · by_cases hpf : c.2 <+: b.2
          · obtain ⟨q, hq⟩ := hpf
            have hp : p2 (a :: b :: c :: B) = ((a.1, a.2 ++ c.2) :: (p2 ((b.1, q ++ c.2) :: B)).1, true) := by
              rw [p2, if_pos hac, if_neg hs, if_pos ⟨q, hq⟩, ← hq]
              simp
            have ih := p2_mc n ((b.1, q ++ c.2) :: B) (by simp; omega)
            have hlen : b.2.length = c.2.length + q.length := by rw [← hq, List.length_append]
            rw [hp]
            simp only [mc, cnt, ih.1, ih.2, if_pos hac.1, if_pos hac.2, List.length_append, hlen]
            exact ⟨by split <;> omega, by omega⟩
          · have hp : p2 (a :: b :: c :: B) = (a :: (p2 (b :: c :: B)).1, (p2 (b :: c :: B)).2) := by rw [p2, if_pos hac, if_neg hs, if_neg hpf]
            rw [hp]
            exact ⟨by simp only [mc] at skip ⊢; omega, by simp only [cnt] at skip ⊢; omega⟩
      · have hp : p2 (a :: b :: c :: B) = (a :: (p2 (b :: c :: B)).1, (p2 (b :: c :: B)).2) := by rw [p2, if_neg hac]
        rw [hp]
        exact ⟨by simp only [mc] at skip ⊢; omega, by simp only [cnt] at skip ⊢; omega⟩
termination_by n => n
theorem dcm_mc : ∀ (n : Nat) (l : List M), Okm l → Typed l → mc (dcm n l) ≤ mc l
  | 0, _, _, _ => Nat.le_refl _
  | n + 1, l, oT, tT => by
    obtain ⟨_, _, _, _, _, o1, t1, _, _, _⟩ := p1_spec l tT oT
    obtain ⟨_, o2, t2, _, _, _⟩ := p2_spec _ (p1 l) (Nat.le_refl _)
    have h1 := p1_mc l tT oT
    have h2 := (p2_mc _ (p1 l) (Nat.le_refl _)).1
    rw [dcm]
    split
    · have := dcm_mc n (p2 (p1 l)).1 (o2 o1) (t2 t1)
      omega
    · omega
/-- What is left of a list of differences leads on: no less than the least. -/
theorem mc_least : ∀ {l : List M}, Typed l → ed (side 1 l) (side (-1) l) ≤ mc l
  | [], _ => by simp [side, ed_nil_left]
  | m :: l, t => by
    have ih := mc_least t.tail
    rcases t m (List.mem_cons_self ..) with h | h | h
    · have := ed_append_le m.2 (side 1 l) m.2 (side (-1) l)
      rw [ed_self] at this
      simp only [side, mc, h] at *
      simp at *
      omega
    · have := ed_append_le [] (side 1 l) m.2 (side (-1) l)
      rw [ed_nil_left] at this
      simp only [side, mc, h] at *
      simp at *
      omega
    · have := ed_append_le m.2 (side 1 l) [] (side (-1) l)
      rw [ed_nil_right] at this
      simp only [side, mc, h] at *
      simp at *
      omega
end Go.Proofs.YtmlfecgppnffgaaDoor.E
