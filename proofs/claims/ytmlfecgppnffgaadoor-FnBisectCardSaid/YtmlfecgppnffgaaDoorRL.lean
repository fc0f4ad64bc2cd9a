import Derived.Test.YtmlfecgppnffgaaDoorRK
/- A difference leads from one text to the other one, as the laws ask; the package's bisection. -/
set_option linter.unusedVariables false
set_option linter.unusedSimpArgs false
namespace Go.Proofs.YtmlfecgppnffgaaDoor.E
open Go.Ev
theorem side_okl (z : Int) : ∀ (l : List M), Okm l → Okl (side z l)
  | [], _ => Okl.nil
  | m :: l, h => by
    simp only [side]
    split
    · exact side_okl z l h.tail
    · exact h.head.append (side_okl z l h.tail)
theorem first_loop (K : Nat) (l : List M) (hl : wt l ≤ 1000000) (ho : Okm l) : ∀ (d i k : Nat) (acc : List Int), i + d = l.length → Okl acc → acc.length + wt (l.drop i) ≤ 2000000 → 2 * d + 1 ≤ k →
    DiffFirst_l0 K k (strOfRunes acc) (enc l) (l.length : Int) (i : Int) = some (strOfRunes (acc ++ side 1 (l.drop i)))
  | 0, i, k, acc, h, ha, hw, hk => by
    obtain ⟨k, rfl⟩ : ∃ m, k = m + 1 := ⟨k - 1, by omega⟩
    rw [DiffFirst_l0_eq, br_ge (by omega), List.drop_eq_nil_of_le (by omega)]
    show _ = some (strOfRunes (acc ++ []))
    rw [List.append_nil]
  | d + 1, i, k, acc, h, ha, hw, hk => by
    have hwl := wt_len l
    have hi : i < l.length := by omega
    have hd := List.drop_eq_getElem_cons hi
    have hom := ho (l[i]) (List.getElem_mem _)
    have hen := enc_len l
    rw [hd] at hw ⊢
    simp only [wt] at hw
    obtain ⟨k, rfl⟩ : ∃ m, k = m + 1 := ⟨k - 1, by omega⟩
    obtain ⟨k, rfl⟩ : ∃ m, k = m + 1 := ⟨k - 1, by omega⟩
    rw [DiffFirst_l0_eq, br_lt (by omega), DiffFirst_j0_eq, chk_le (by omega), chk_lt (by omega), nth_at TS0 (enc l) i (by omega), getE hi, br_not, wrap_id (x := (i : Int) + 1) (by omega) (by omega), show (i : Int) + 1 = ((i + 1 : Nat) : Int) by omega]
    have s1 := size_le ha
    have s2 := size_le hom
    simp only [side]
    by_cases h1 : (l[i]).1 = 1
    · rw [br_eq h1, if_pos h1, first_loop K l hl ho d (i + 1) k acc (by omega) ha (by omega) (by omega)]
    · rw [br_ne h1, if_neg h1, chk_nle (by omega), app_str, first_loop K l hl ho d (i + 1) k _ (by omega) (ha.append hom) (by rw [List.length_append]; omega) (by omega), List.append_assoc]
theorem first_ok (K : Nat) (l : List M) (hl : wt l ≤ 1000000) (ho : Okm l) (hK : 2 * l.length + 2 ≤ K) : DiffFirst K (enc l) = some (strOfRunes (side 1 l)) := by
  obtain ⟨K, rfl⟩ : ∃ m, K = m + 1 := ⟨K - 1, by omega⟩
  rw [DiffFirst_eq, enc_len, show (⟨#[]⟩ : ByteArray) = strOfRunes [] from rfl]
  have := first_loop K l hl ho l.length 0 K [] (by omega) Okl.nil (by simp; omega) (by omega)
  simpa using this
theorem second_loop (K : Nat) (l : List M) (hl : wt l ≤ 1000000) (ho : Okm l) : ∀ (d i k : Nat) (acc : List Int), i + d = l.length → Okl acc → acc.length + wt (l.drop i) ≤ 2000000 → 2 * d + 1 ≤ k →
    DiffSecond_l0 K k (strOfRunes acc) (enc l) (l.length : Int) (i : Int) = some (strOfRunes (acc ++ side (-1) (l.drop i)))
  | 0, i, k, acc, h, ha, hw, hk => by
    obtain ⟨k, rfl⟩ : ∃ m, k = m + 1 := ⟨k - 1, by omega⟩
    rw [DiffSecond_l0_eq, br_ge (by omega), List.drop_eq_nil_of_le (by omega)]
    show _ = some (strOfRunes (acc ++ []))
    rw [List.append_nil]
  | d + 1, i, k, acc, h, ha, hw, hk => by
    have hwl := wt_len l
    have hi : i < l.length := by omega
    have hd := List.drop_eq_getElem_cons hi
    have hom := ho (l[i]) (List.getElem_mem _)
    have hen := enc_len l
    rw [hd] at hw ⊢
    simp only [wt] at hw
    obtain ⟨k, rfl⟩ : ∃ m, k = m + 1 := ⟨k - 1, by omega⟩
    obtain ⟨k, rfl⟩ : ∃ m, k = m + 1 := ⟨k - 1, by omega⟩
    rw [DiffSecond_l0_eq, br_lt (by omega), DiffSecond_j0_eq, chk_le (by omega), chk_lt (by omega), nth_at TS0 (enc l) i (by omega), getE hi, br_not, wrap_id (x := (i : Int) + 1) (by omega) (by omega), show (i : Int) + 1 = ((i + 1 : Nat) : Int) by omega]
    have s1 := size_le ha
    have s2 := size_le hom
    simp only [side]
    by_cases h1 : (l[i]).1 = -1
    · rw [br_eq h1, if_pos h1, second_loop K l hl ho d (i + 1) k acc (by omega) ha (by omega) (by omega)]
    · rw [br_ne h1, if_neg h1, chk_nle (by omega), app_str, second_loop K l hl ho d (i + 1) k _ (by omega) (ha.append hom) (by rw [List.length_append]; omega) (by omega), List.append_assoc]
theorem second_ok (K : Nat) (l : List M) (hl : wt l ≤ 1000000) (ho : Okm l) (hK : 2 * l.length + 2 ≤ K) : DiffSecond K (enc l) = some (strOfRunes (side (-1) l)) := by
  obtain ⟨K, rfl⟩ : ∃ m, K = m + 1 := ⟨K - 1, by omega⟩
  rw [DiffSecond_eq, enc_len, show (⟨#[]⟩ : ByteArray) = strOfRunes [] from rfl]
  have := second_loop K l hl ho l.length 0 K [] (by omega) Okl.nil (by simp; omega) (by omega)
  simpa using this
theorem leads_ok (K : Nat) (l : List M) (a b : ByteArray) (va : Vt a) (vb : Vt b) (hl : wt l ≤ 1000000) (ho : Okm l) (s1 : side 1 l = runesI a) (s2 : side (-1) l = runesI b) (hK : 2 * l.length + 4 ≤ K) : leads K (enc l) a b = some true := by
  obtain ⟨K, rfl⟩ : ∃ m, K = m + 1 := ⟨K - 1, by omega⟩
  rw [leads_eq, first_ok K l hl ho (by omega), Option.bind_some, second_ok K l hl ho (by omega), Option.bind_some, s1, s2, va.back, vb.back, eqS_iff, decide_eq_true rfl, br_true, eqS_iff, decide_eq_true rfl]
/-- A bisection, as the law calls it. -/
theorem bisect_law (s : Nat) (hs : s ≤ 6000) : ∃ F : Nat, ∀ (a b : ByteArray) (K : Nat), Vt a → Vt b → 3 ≤ (runesI a).length + (runesI b).length → (runesI a).length + (runesI b).length ≤ s → F ≤ K →
    ∃ l, Bisect K a b = some (enc l) ∧ Okm l ∧ Typed l ∧ side 1 l = runesI a ∧ side (-1) l = runesI b ∧ mc l = ed (runesI a) (runesI b) ∧ wt l ≤ 100000 := by
  obtain ⟨X0, hX0, hz⟩ := plain_ok 2 (by omega)
  have hp : ∀ K, 2 ≤ K → plain K = some X0 := by
    intro K hK
    obtain ⟨k, rfl⟩ : ∃ k, K = k + 1 + 1 := ⟨K - 2, by omega⟩
    rw [plain_eq, New_eq]
    rw [show (2 : Nat) = 0 + 1 + 1 from rfl, plain_eq, New_eq] at hX0
    exact hX0
  obtain ⟨F, hF⟩ := main_all X0 hz s hs
  obtain ⟨G, hG⟩ := bisect_all X0 s (by omega)
  obtain ⟨H, hH⟩ : ∃ H : Nat, H = F + G + 300000 := ⟨_, rfl⟩
  refine ⟨H, fun a b K va vb h3 hl hK => ?_⟩
  obtain ⟨k, rfl⟩ : ∃ k, K = k + 4 := ⟨K - 4, by omega⟩
  have main : ∃ l, diffBisect (k + 2) X0 (runesI a) (runesI b) = some (enc l) ∧ Okm l ∧ Typed l ∧ side 1 l = runesI a ∧ side (-1) l = runesI b ∧ mc l = ed (runesI a) (runesI b) ∧ wt l ≤ 100000 := by
    rcases hG (runesI a) (runesI b) (k + 1) h3 hl (by omega) with ⟨e1, e2⟩ | ⟨x, y, hx, hy, e1, _, e3⟩
    · have c := cmp_both va.okl vb.okl e2 (by omega)
      have := c.w
      exact ⟨_, e1, c.ok, c.ty, c.s1, c.s2, c.mn, by omega⟩
    · obtain ⟨l1, r1, s1⟩ := hF ((runesI a).take x) ((runesI b).take y) k (by simp only [List.length_take]; omega) (okl_tk va.okl x) (okl_tk vb.okl y) (by omega)
      obtain ⟨l2, r2, s2⟩ := hF ((runesI a).drop x) ((runesI b).drop y) k (by simp only [List.length_drop]; omega) (okl_dr va.okl x) (okl_dr vb.okl y) (by omega)
      have w1 := s1.w
      have w2 := s2.w
      have v1 := wt_len l1
      have v2 := wt_len l2
      simp only [List.length_take, List.length_drop] at w1 w2
      refine ⟨l1 ++ l2, ?_, s1.ok.app s2.ok, s1.ty.app s2.ty, ?_, ?_, ?_, ?_⟩
      · rw [e3, split_ok k X0 _ _ x y hx hy (by omega) (by omega), r1, Option.bind_some, r2, Option.bind_some, chk_lt (by rw [enc_len, enc_len]; omega), enc_app]
      · rw [side_app, s1.s1, s2.s1, List.take_append_drop]
      · rw [side_app, s1.s2, s2.s2, List.take_append_drop]
      · rw [mc_app, s1.mn, s2.mn]
        exact e1
      · rw [wt_app]
        omega
  obtain ⟨l, e, o, t, s1, s2, m, w⟩ := main
  have hwl := wt_len l
  refine ⟨l, ?_, o, t, s1, s2, m, w⟩
  rw [Bisect_eq, hp _ (by omega), Option.bind_some, DiffBisect_eq, chk_nle (by omega), chk_nle (by omega), e, Option.bind_some, Option.bind_some, back_ok _ l (by omega) t (by omega), Option.bind_some]
end Go.Proofs.YtmlfecgppnffgaaDoor.E
