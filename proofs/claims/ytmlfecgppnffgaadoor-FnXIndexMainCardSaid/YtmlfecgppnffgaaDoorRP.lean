import Derived.Test.YtmlfecgppnffgaaDoorRJ
/- Where a place of the first text is in the second one. -/
set_option linter.unusedVariables false
set_option linter.unusedSimpArgs false
namespace Go.Proofs.YtmlfecgppnffgaaDoor.E
open Go.Ev
def zs (x : List Int) : Int := ((strOfRunes x).size : Int)
def xi (loc : Int) : List M → Int → Int → Int
  | [], u, v => v + (loc - u)
  | m :: l, u, v =>
    if loc < (if m.1 = 1 then u else u + zs m.2) then (if m.1 = -1 then v else v + (loc - u))
    else xi loc l (if m.1 = 1 then u else u + zs m.2) (if m.1 = -1 then v else v + zs m.2)
def z1 : List M → Int
  | [] => 0
  | m :: l => (if m.1 = 1 then 0 else zs m.2) + z1 l
def z2 : List M → Int
  | [] => 0
  | m :: l => (if m.1 = -1 then 0 else zs m.2) + z2 l
theorem zs_nn (x : List Int) : 0 ≤ zs x := by unfold zs; omega
theorem z1_nn : ∀ l : List M, 0 ≤ z1 l
  | [] => Int.le_refl _
  | m :: l => by
    have := z1_nn l
    have := zs_nn m.2
    simp only [z1]
    split <;> omega
theorem z2_nn : ∀ l : List M, 0 ≤ z2 l
  | [] => Int.le_refl _
  | m :: l => by
    have := z2_nn l
    have := zs_nn m.2
    simp only [z2]
    split <;> omega
theorem z1_side : ∀ l : List M, z1 l = zs (side 1 l)
  | [] => rfl
  | m :: l => by
    have := z1_side l
    simp only [z1, side]
    split
    · omega
    · unfold zs at this ⊢
      rw [size_app']
      omega
theorem z2_side : ∀ l : List M, z2 l = zs (side (-1) l)
  | [] => rfl
  | m :: l => by
    have := z2_side l
    simp only [z2, side]
    split
    · omega
    · unfold zs at this ⊢
      rw [size_app']
      omega
theorem cs3 (t : Int) : (t = 1 ∧ ¬ t = -1) ∨ (¬ t = 1 ∧ t = -1) ∨ (¬ t = 1 ∧ ¬ t = -1) := by omega
theorem xi_low (loc : Int) : ∀ (l : List M) (u v : Int), u ≤ loc → v ≤ xi loc l u v
  | [], u, v, h => by simp only [xi]; omega
  | m :: l, u, v, h => by
    have hz := zs_nn m.2
    rcases cs3 m.1 with ⟨h1, h3⟩ | ⟨h1, h3⟩ | ⟨h1, h3⟩
    · simp only [xi, if_pos h1, if_neg h3]
      rw [if_neg (by omega)]
      have := xi_low loc l u (v + zs m.2) h
      omega
    · simp only [xi, if_neg h1, if_pos h3]
      split
      · omega
      · exact xi_low loc l (u + zs m.2) v (by omega)
    · simp only [xi, if_neg h1, if_neg h3]
      split
      · omega
      · have := xi_low loc l (u + zs m.2) (v + zs m.2) (by omega)
        omega
theorem xi_mono {loc loc' : Int} (hl : loc ≤ loc') : ∀ (l : List M) (u v : Int), u ≤ loc → xi loc l u v ≤ xi loc' l u v
  | [], u, v, h => by simp only [xi]; omega
  | m :: l, u, v, h => by
    have hz := zs_nn m.2
    rcases cs3 m.1 with ⟨h1, h3⟩ | ⟨h1, h3⟩ | ⟨h1, h3⟩
    · simp only [xi, if_pos h1, if_neg h3]
      rw [if_neg (by omega), if_neg (by omega)]
      exact xi_mono hl l u (v + zs m.2) h
    · simp only [xi, if_neg h1, if_pos h3]
      by_cases g1 : loc < u + zs m.2
      · rw [if_pos g1]
        by_cases g2 : loc' < u + zs m.2
        · rw [if_pos g2]
          exact Int.le_refl _
        · rw [if_neg g2]
          exact xi_low loc' l (u + zs m.2) v (by omega)
      · rw [if_neg g1, if_neg (by omega)]
        exact xi_mono hl l (u + zs m.2) v (by omega)
    · simp only [xi, if_neg h1, if_neg h3]
      by_cases g1 : loc < u + zs m.2
      · rw [if_pos g1]
        by_cases g2 : loc' < u + zs m.2
        · rw [if_pos g2]
          omega
        · rw [if_neg g2]
          have := xi_low loc' l (u + zs m.2) (v + zs m.2) (by omega)
          omega
      · rw [if_neg g1, if_neg (by omega)]
        exact xi_mono hl l (u + zs m.2) (v + zs m.2) (by omega)
theorem xi_high (loc : Int) : ∀ (l : List M) (u v : Int), u ≤ loc → loc ≤ u + z1 l → xi loc l u v ≤ v + z2 l
  | [], u, v, h, hh => by simp only [xi, z1, z2] at hh ⊢; omega
  | m :: l, u, v, h, hh => by
    have hz := zs_nn m.2
    have hz2 := z2_nn l
    simp only [z1] at hh
    rcases cs3 m.1 with ⟨h1, h3⟩ | ⟨h1, h3⟩ | ⟨h1, h3⟩
    · rw [if_pos h1] at hh
      simp only [xi, z2, if_pos h1, if_neg h3]
      rw [if_neg (by omega)]
      have := xi_high loc l u (v + zs m.2) h (by omega)
      omega
    · rw [if_neg h1] at hh
      simp only [xi, z2, if_neg h1, if_pos h3]
      split
      · omega
      · have := xi_high loc l (u + zs m.2) v (by omega) (by omega)
        omega
    · rw [if_neg h1] at hh
      simp only [xi, z2, if_neg h1, if_neg h3]
      split
      · omega
      · have := xi_high loc l (u + zs m.2) (v + zs m.2) (by omega) (by omega)
        omega
theorem xi_end : ∀ (l : List M) (u v loc : Int), loc = u + z1 l → xi loc l u v = v + z2 l
  | [], u, v, loc, h => by simp only [xi, z1, z2] at h ⊢; omega
  | m :: l, u, v, loc, h => by
    have hz1 := z1_nn l
    simp only [z1] at h
    simp only [xi, z2]
    have hz := zs_nn m.2
    by_cases h4 : m.1 = 1
    · rw [if_pos h4] at h
      simp only [if_pos h4]
      rw [if_neg (by omega), xi_end l _ _ loc (by omega)]
      have h3 : ¬ m.1 = -1 := by omega
      rw [if_neg h3, if_neg h3]
      omega
    · rw [if_neg h4] at h
      simp only [if_neg h4]
      rw [if_neg (by omega), xi_end l _ _ loc (by omega)]
      by_cases h3 : m.1 = -1
      · rw [if_pos h3, if_pos h3]
        omega
      · rw [if_neg h3, if_neg h3]
        omega
theorem xi_loop (K : Nat) (l : List M) (loc : Int) (hl : wt l ≤ 1000000) (h0 : 0 ≤ loc) (hloc : loc ≤ 1000000) : ∀ (d i k : Nat) (u v : Int), i + d = l.length → 0 ≤ u → 0 ≤ v → u + z1 (l.drop i) ≤ 1000000 → v + z2 (l.drop i) ≤ 1000000 → 4 * d + 3 ≤ k →
    DiffXIndex_l0 K k (enc l) loc u v u v 0 [(0, (⟨#[]⟩ : ByteArray))] (i : Int) = some (xi loc (l.drop i) u v)
  | 0, i, k, u, v, h, hu, hv, hz1, hz2, hk => by
    have hen := enc_len l
    have n1 := z1_nn (l.drop i)
    have n2 := z2_nn (l.drop i)
    obtain ⟨k, rfl⟩ : ∃ m, k = m + 1 := ⟨k - 1, by omega⟩
    obtain ⟨k, rfl⟩ : ∃ m, k = m + 1 := ⟨k - 1, by omega⟩
    obtain ⟨k, rfl⟩ : ∃ m, k = m + 1 := ⟨k - 1, by omega⟩
    have e0 : nth TS2 [((0 : Int), (⟨#[]⟩ : ByteArray))] 0 = (0, ⟨#[]⟩) := rfl
    rw [DiffXIndex_l0_eq, br_ge (by omega), DiffXIndex_j1_eq, e0, br_ne (by simp), DiffXIndex_j3_eq, wrap_id (x := loc - u) (by omega) (by omega), wrap_id (by omega) (by omega), List.drop_eq_nil_of_le (by omega)]
    rfl
  | d + 1, i, k, u, v, h, hu, hv, hz1, hz2, hk => by
    have hwl := wt_len l
    have hi : i < l.length := by omega
    have hd := List.drop_eq_getElem_cons hi
    have hen := enc_len l
    have n1 := z1_nn (l.drop (i + 1))
    have n2 := z2_nn (l.drop (i + 1))
    have hz := zs_nn (l[i]).2
    rw [hd] at hz1 hz2 ⊢
    simp only [z1, z2] at hz1 hz2
    have ez : (ByteArray.size (strOfRunes (l[i]).2) : Int) = zs (l[i]).2 := rfl
    have e0 : nth TS2 [((l[i]).1, strOfRunes (l[i]).2)] 0 = ((l[i]).1, strOfRunes (l[i]).2) := rfl
    have es : List.set [((0 : Int), (⟨#[]⟩ : ByteArray))] (Int.toNat 0) ((l[i]).1, strOfRunes (l[i]).2) = [((l[i]).1, strOfRunes (l[i]).2)] := rfl
    obtain ⟨k, rfl⟩ : ∃ m, k = m + 1 := ⟨k - 1, by omega⟩
    obtain ⟨k, rfl⟩ : ∃ m, k = m + 1 := ⟨k - 1, by omega⟩
    obtain ⟨k, rfl⟩ : ∃ m, k = m + 1 := ⟨k - 1, by omega⟩
    obtain ⟨k, rfl⟩ : ∃ m, k = m + 1 := ⟨k - 1, by omega⟩
    rw [DiffXIndex_l0_eq, br_lt (by omega), DiffXIndex_j0_eq, chk_le (by omega), chk_lt (by omega), nth_at TS2 (enc l) i (by omega), getE hi, br_not, ez]
    simp only [xi]
    have fin : ∀ (U V : Int) (k : Nat), U = (if (l[i]).1 = 1 then u else u + zs (l[i]).2) → V = (if (l[i]).1 = -1 then v else v + zs (l[i]).2) → 4 * d + 3 ≤ k →
        DiffXIndex_j4 K (k + 1) (enc l) loc U V u v 0 [(0, (⟨#[]⟩ : ByteArray))] (i : Int) 0 [((l[i]).1, strOfRunes (l[i]).2)] =
          some (if loc < U then (if (l[i]).1 = -1 then v else v + (loc - u)) else xi loc (l.drop (i + 1)) U V) := by
      intro U V k hU hV hk
      have hUb : 0 ≤ U ∧ U + z1 (l.drop (i + 1)) ≤ 1000000 := by
        rw [hU]
        by_cases g : (l[i]).1 = 1
        · rw [if_pos g] at hz1 ⊢
          omega
        · rw [if_neg g] at hz1 ⊢
          omega
      have hVb : 0 ≤ V ∧ V + z2 (l.drop (i + 1)) ≤ 1000000 := by
        rw [hV]
        by_cases g : (l[i]).1 = -1
        · rw [if_pos g] at hz2 ⊢
          omega
        · rw [if_neg g] at hz2 ⊢
          omega
      rw [DiffXIndex_j4_eq, e0]
      by_cases hlt : loc < U
      · rw [br_lt hlt, if_pos hlt, es]
        obtain ⟨k, rfl⟩ : ∃ m, k = m + 1 := ⟨k - 1, by omega⟩
        obtain ⟨k, rfl⟩ : ∃ m, k = m + 1 := ⟨k - 1, by omega⟩
        rw [DiffXIndex_j1_eq, e0]
        by_cases h3 : (l[i]).1 = -1
        · rw [br_eq h3, if_pos h3]
        · have hb : u ≤ 1000000 ∧ v ≤ 1000000 := by
            split at hz1 <;> split at hz2 <;> omega
          rw [br_ne h3, if_neg h3, DiffXIndex_j3_eq, wrap_id (x := loc - u) (by omega) (by omega), wrap_id (by omega) (by omega)]
      · rw [br_ge (by omega), if_neg hlt, wrap_id (by omega) (by omega), show (i : Int) + 1 = ((i + 1 : Nat) : Int) by omega]
        exact xi_loop K l loc hl h0 hloc d (i + 1) k U V (by omega) hUb.1 hVb.1 hUb.2 hVb.2 hk
    by_cases h1 : (l[i]).1 = 1
    · have h3 : ¬ (l[i]).1 = -1 := by omega
      rw [br_eq h1, DiffXIndex_j2_eq, e0, br_not, br_ne h3, ez]
      rw [if_neg h3] at hz2
      rw [wrap_id (by omega) (by omega), fin _ _ k (by rw [if_pos h1]) (by rw [if_neg h3]) (by omega), if_pos h1, if_neg h3, if_neg h3]
    · rw [if_neg h1] at hz1
      rw [br_ne h1, wrap_id (by omega) (by omega), DiffXIndex_j2_eq, e0, br_not, ez]
      by_cases h3 : (l[i]).1 = -1
      · rw [br_eq h3, fin _ _ k (by rw [if_neg h1]) (by rw [if_pos h3]) (by omega), if_neg h1, if_pos h3, if_pos h3]
      · rw [if_neg h3] at hz2
        rw [br_ne h3, wrap_id (by omega) (by omega), fin _ _ k (by rw [if_neg h1]) (by rw [if_neg h3]) (by omega), if_neg h1, if_neg h3, if_neg h3]
theorem xindex_ok (K : Nat) (l : List M) (loc : Int) (hl : wt l ≤ 900000) (tT : Typed l) (h0 : 0 ≤ loc) (hloc : loc ≤ 1000000) (hz1 : z1 l ≤ 1000000) (hz2 : z2 l ≤ 1000000) (hK : 4 * l.length + 10 ≤ K) : XIndex K (enc l) loc = some (xi loc l 0 0) := by
  have hwl := wt_len l
  obtain ⟨K, rfl⟩ : ∃ m, K = m + 1 := ⟨K - 1, by omega⟩
  obtain ⟨X, hX, _⟩ := plain_ok K (by omega)
  rw [XIndex_eq, hX, Option.bind_some, diffs_ok _ l (by omega) tT (by omega), Option.bind_some]
  obtain ⟨K, rfl⟩ : ∃ m, K = m + 1 := ⟨K - 1, by omega⟩
  rw [DiffXIndex_eq]
  have := xi_loop K l loc (by omega) h0 hloc l.length 0 K 0 0 (by omega) (Int.le_refl _) (Int.le_refl _) (by simpa using hz1) (by simpa using hz2) (by omega)
  rw [show ((0 : Nat) : Int) = 0 from rfl] at this
  rw [this, Option.bind_some]
  rfl
end Go.Proofs.YtmlfecgppnffgaaDoor.E
