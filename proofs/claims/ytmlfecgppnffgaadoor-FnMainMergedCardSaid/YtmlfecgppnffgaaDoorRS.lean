import Derived.Test.YtmlfecgppnffgaaDoorRR
import Derived.Test.YtmlfecgppnffgaaDoorRJ
/- The form of the difference of two texts, as the specification asks. -/
set_option linter.unusedVariables false
set_option linter.unusedSimpArgs false
namespace Go.Proofs.YtmlfecgppnffgaaDoor.E
open Go.Ev
theorem cpl0 {x y : List Int} (hx : x ≠ []) (hy : y ≠ []) (h : cpl x y = 0) : x[0]'(List.length_pos_iff.2 hx) ≠ y[0]'(List.length_pos_iff.2 hy) := by
  have := cpl_max x y (by rw [h]; exact List.length_pos_iff.2 hx) (by rw [h]; exact List.length_pos_iff.2 hy)
  simpa [h] using this
theorem csl0 {x y : List Int} (hx : x ≠ []) (hy : y ≠ []) (h : csl x y = 0) : x[x.length - 1]'(by have := List.length_pos_iff.2 hx; omega) ≠ y[y.length - 1]'(by have := List.length_pos_iff.2 hy; omega) := by
  have hx' : x.reverse ≠ [] := by simpa using hx
  have hy' : y.reverse ≠ [] := by simpa using hy
  have := cpl0 hx' hy' h
  simpa [List.getElem_reverse] using this
theorem str_ne {x : List Int} (h : Okl x) (hx : x ≠ []) : eqS (strOfRunes x) ⟨#[]⟩ = false := by
  rw [eqS_iff]
  refine decide_eq_false fun e => hx ?_
  have := congrArg ByteArray.size e
  exact (strOfRunes_size0 h).1 this
set_option maxHeartbeats 1000000 in

theorem prefix0 (K : Nat) {x y : List Int} (hx : x ≠ []) (hy : y ≠ []) (ox : Okl x) (oy : Okl y) (lx : x.length ≤ 1000000) (ly : y.length ≤ 1000000) (h : cpl y x = 0) (hK : 2 ≤ K) : DiffPrefix K (strOfRunes x) (strOfRunes y) = some 0 := by
  have h1 : 0 < x.length := List.length_pos_iff.2 hx
  have h2 : 0 < y.length := List.length_pos_iff.2 hy
  have h0 := cpl0 hy hx h
  obtain ⟨K, rfl⟩ : ∃ m, K = m + 1 := ⟨K - 1, by omega⟩
  obtain ⟨K, rfl⟩ : ∃ m, K = m + 1 := ⟨K - 1, by omega⟩
  have e1 := rdI x 0 h1
  have e2 := rdI y 0 h2
  rw [show ((0 : Nat) : Int) = 0 from rfl] at e1 e2
  rw [DiffPrefix_eq, runesI_of ox, runesI_of oy, chk_nle (by omega), chk_nle (by omega), DiffPrefix_l0_eq, br_lt (by omega), br_lt (by omega), chk_le (by omega), chk_lt (by omega), chk_le (by omega), chk_lt (by omega), e1, e2, br_ne (fun e => h0 e.symm)]
theorem suffix0 (K : Nat) {x y : List Int} (hx : x ≠ []) (hy : y ≠ []) (ox : Okl x) (oy : Okl y) (lx : x.length ≤ 1000000) (ly : y.length ≤ 1000000) (h : csl y x = 0) (hK : 2 ≤ K) : DiffSuffix K (strOfRunes x) (strOfRunes y) = some 0 := by
  have h1 : 0 < x.length := List.length_pos_iff.2 hx
  have h2 : 0 < y.length := List.length_pos_iff.2 hy
  have h0 := csl0 hy hx h
  obtain ⟨K, rfl⟩ : ∃ m, K = m + 1 := ⟨K - 1, by omega⟩
  obtain ⟨K, rfl⟩ : ∃ m, K = m + 1 := ⟨K - 1, by omega⟩
  have e1 := rdI x (x.length - 1) (by omega)
  have e2 := rdI y (y.length - 1) (by omega)
  rw [DiffSuffix_eq, runesI_of ox, runesI_of oy, chk_nle (by omega), chk_nle (by omega), DiffSuffix_l0_eq, br_lt (by omega), br_lt (by omega), wrap_id (x := (x.length : Int) - 1) (by omega) (by omega), wrap_id (x := (y.length : Int) - 1) (by omega) (by omega), wrap_id (x := (x.length : Int) - 1 - 0) (by omega) (by omega), wrap_id (x := (y.length : Int) - 1 - 0) (by omega) (by omega), chk_le (by omega), chk_lt (by omega), chk_le (by omega), chk_lt (by omega), show (x.length : Int) - 1 - 0 = ((x.length - 1 : Nat) : Int) by omega, show (y.length : Int) - 1 - 0 = ((y.length - 1 : Nat) : Int) by omega, e1, e2, br_ne (fun e => h0 e.symm)]
theorem nthE (l : List M) (i : Nat) (h : i < l.length) : nth TS0 (enc l) (i : Int) = ((l[i]).1, strOfRunes (l[i]).2) := by
  have := nth_at TS0 (enc l) i (by rw [enc_len]; exact h)
  rw [this]
  exact getE h
theorem wt_at : ∀ (l : List M) (i : Nat) (h : i < l.length), (l[i]).2.length ≤ wt l
  | [], i, h => by simp at h
  | m :: l, 0, _ => by simp only [wt, List.getElem_cons_zero]; omega
  | m :: l, i + 1, h => by
    have := wt_at l i (by simpa using h)
    simp only [wt, List.getElem_cons_succ]
    omega
theorem merged_loop (K : Nat) (l : List M) (hl : wt l ≤ 1000000) (ho : Okm l) (hne : NE l) (hc : Ch l) (hK : 2 ≤ K) : ∀ (d i k : Nat), i + d = l.length → 7 * d + 1 ≤ k → IsDiffMerged_l0 K k (enc l) (l.length : Int) (i : Int) = some true
  | 0, i, k, h, hk => by
    obtain ⟨k, rfl⟩ : ∃ m, k = m + 1 := ⟨k - 1, by omega⟩
    rw [IsDiffMerged_l0_eq, br_ge (by omega)]
  | d + 1, i, k, h, hk => by
    have hwl := wt_len l
    have hen := enc_len l
    have hi : i < l.length := by omega
    have oi := ho (l[i]) (List.getElem_mem _)
    have ni := hne (l[i]) (List.getElem_mem _)
    have e0 : nth TS0 [((l[i]).1, strOfRunes (l[i]).2)] 0 = ((l[i]).1, strOfRunes (l[i]).2) := rfl
    obtain ⟨k, rfl⟩ : ∃ m, k = m + 1 := ⟨k - 1, by omega⟩
    obtain ⟨k, rfl⟩ : ∃ m, k = m + 1 := ⟨k - 1, by omega⟩
    obtain ⟨k, rfl⟩ : ∃ m, k = m + 1 := ⟨k - 1, by omega⟩
    obtain ⟨k, rfl⟩ : ∃ m, k = m + 1 := ⟨k - 1, by omega⟩
    obtain ⟨k, rfl⟩ : ∃ m, k = m + 1 := ⟨k - 1, by omega⟩
    obtain ⟨k, rfl⟩ : ∃ m, k = m + 1 := ⟨k - 1, by omega⟩
    obtain ⟨k, rfl⟩ : ∃ m, k = m + 1 := ⟨k - 1, by omega⟩
    rw [IsDiffMerged_l0_eq, br_lt (by omega), IsDiffMerged_j0_eq, chk_le (by omega), chk_lt (by omega), nthE l i hi, str_ne oi ni, br_false, IsDiffMerged_j1_eq]
    have next : ∀ k : Nat, 7 * d + 1 ≤ k → IsDiffMerged_l0 K k (enc l) (l.length : Int) (IntKind.i64.wrap ((i : Int) + 1)) = some true := by
      intro k hk
      rw [wrap_id (by omega) (by omega), show (i : Int) + 1 = ((i + 1 : Nat) : Int) by omega]
      exact merged_loop K l hl ho hne hc hK d (i + 1) k (by omega) hk
    cases i with
    | zero =>
      rw [br_eq (by rfl)]
      exact next _ (by omega)
    | succ i =>
      have hi' : i < l.length := by omega
      have op := ho (l[i]) (List.getElem_mem _)
      have np := hne (l[i]) (List.getElem_mem _)
      obtain ⟨a1, a2, a3⟩ := Ch.at_ i hi hc
      have w1 : (l[i]).2.length ≤ 1000000 := Nat.le_trans (wt_at l i hi') hl
      have w2 : (l[i + 1]).2.length ≤ 1000000 := Nat.le_trans (wt_at l (i + 1) hi) hl
      have ep : nth TS0 [((l[i]).1, strOfRunes (l[i]).2)] 0 = ((l[i]).1, strOfRunes (l[i]).2) := rfl
      rw [br_ne (by omega), IsDiffMerged_j2_eq, wrap_id (x := ((i + 1 : Nat) : Int) - 1) (by omega) (by omega), show ((i + 1 : Nat) : Int) - 1 = (i : Int) by omega, chk_le (by omega), chk_lt (by omega), nthE l i hi', e0, br_ne a1]
      have fin : ∀ k : Nat, 7 * d + 1 ≤ k → IsDiffMerged_j3 K (k + 3) (enc l) 0 [((l[i + 1]).1, strOfRunes (l[i + 1]).2)] 0 [((l[i]).1, strOfRunes (l[i]).2)] (l.length : Int) ((i + 1 : Nat) : Int) false = some true := by
        intro k hk
        rw [IsDiffMerged_j3_eq, br_false, IsDiffMerged_j4_eq, e0, ep]
        have j5 : IsDiffMerged_j5 K (k + 1) (enc l) (l.length : Int) ((i + 1 : Nat) : Int) false = some true := by
          rw [IsDiffMerged_j5_eq, br_false]
          exact next _ (by omega)
        by_cases h1 : (l[i]).1 = -1
        · rw [br_eq h1]
          by_cases h2 : (l[i + 1]).1 = 1
          · obtain ⟨q1, q2⟩ := a3 h1 h2
            rw [br_eq h2, prefix0 K np ni op oi w1 w2 q1 hK, Option.bind_some, br_ge (by omega), suffix0 K np ni op oi w1 w2 q2 hK, Option.bind_some]
            rw [show ltI 0 0 = false by rw [ltI_eq]; rfl]
            exact j5
          · rw [br_ne h2]
            exact j5
        · rw [br_ne h1]
          exact j5
      by_cases h1 : (l[i]).1 = 1
      · rw [br_eq h1, eqI_f (fun h2 => a2 ⟨h1, h2⟩)]
        exact fin k (by omega)
      · rw [br_ne h1]
        exact fin k (by omega)
theorem merged_ok (K : Nat) (l : List M) (hl : wt l ≤ 1000000) (ho : Okm l) (hne : NE l) (hc : Ch l) (hK : 7 * l.length + 5 ≤ K) : IsDiffMerged K (enc l) = some true := by
  obtain ⟨K, rfl⟩ : ∃ m, K = m + 1 := ⟨K - 1, by omega⟩
  rw [IsDiffMerged_eq, enc_len]
  by_cases h0 : l.length = 0
  · obtain ⟨K, rfl⟩ : ∃ m, K = m + 1 := ⟨K - 1, by omega⟩
    rw [IsDiffMerged_l0_eq, br_ge (by omega)]
  · exact merged_loop K l hl ho hne hc (by omega) l.length 0 K (by omega) (by omega)
theorem main_law2 (s : Nat) (hs : s ≤ 6000) : ∃ F : Nat, ∀ (a b : ByteArray) (K : Nat), Vt a → Vt b → (runesI a).length + (runesI b).length ≤ s → F ≤ K → ∃ l, Main K a b false = some (enc l) ∧ Res (runesI a) (runesI b) l ∧ NE l ∧ Ch l := by
  obtain ⟨X0, hX0, hz⟩ := plain_ok 2 (by omega)
  have hp : ∀ K, 2 ≤ K → plain K = some X0 := by
    intro K hK
    obtain ⟨k, rfl⟩ : ∃ k, K = k + 1 + 1 := ⟨K - 2, by omega⟩
    rw [plain_eq, New_eq]
    rw [show (2 : Nat) = 0 + 1 + 1 from rfl, plain_eq, New_eq] at hX0
    exact hX0
  obtain ⟨F, hF⟩ := main_all2 X0 hz s hs
  obtain ⟨G, hG⟩ : ∃ G : Nat, G = F + 20 * s + 100 := ⟨_, rfl⟩
  refine ⟨G, fun a b K ha hb hl hK => ?_⟩
  obtain ⟨k, rfl⟩ : ∃ k, K = k + 3 := ⟨K - 3, by omega⟩
  obtain ⟨l, h1, h2, h3⟩ := hF (runesI a) (runesI b) k hl ha.okl hb.okl (by omega)
  have hw := h2.w
  have hwl := wt_len l
  refine ⟨l, ?_, h2, h3⟩
  rw [Main_eq, hp _ (by omega), Option.bind_some, DiffMain_eq, chk_nle (by omega), chk_nle (by omega), DiffMainRunes_eq, h1, Option.bind_some, Option.bind_some, Option.bind_some, back_ok _ l (by omega) h2.ty (by omega), Option.bind_some]
end Go.Proofs.YtmlfecgppnffgaaDoor.E
