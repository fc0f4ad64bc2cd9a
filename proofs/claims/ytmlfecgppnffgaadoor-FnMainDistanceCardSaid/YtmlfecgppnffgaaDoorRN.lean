import Derived.Test.YtmlfecgppnffgaaDoorRK
/- The Levenshtein distance: the true one, that of a difference. -/
set_option linter.unusedVariables false
set_option linter.unusedSimpArgs false
namespace Go.Proofs.YtmlfecgppnffgaaDoor.E
open Go.Ev
def levH : List Int → List Int → Nat
  | [], b => b.length
  | a, [] => a.length
  | x :: a, y :: b => if x = y then levH a b else 1 + min (levH a b) (min (levH a (y :: b)) (levH (x :: a) b))
termination_by a b => a.length + b.length
theorem levH_nl (b : List Int) : levH [] b = b.length := by unfold levH; rfl
theorem levH_nr (a : List Int) : levH a [] = a.length := by cases a <;> (unfold levH; rfl)
theorem levH_cons (x y : Int) (a b : List Int) : levH (x :: a) (y :: b) = if x = y then levH a b else 1 + min (levH a b) (min (levH a (y :: b)) (levH (x :: a) b)) := by
  conv => lhs; unfold levH
theorem levH_symm : ∀ (n : Nat) (a b : List Int), a.length + b.length ≤ n → levH a b = levH b a
  | _, [], b, _ => by rw [levH_nl, levH_nr]
  | _, x :: a, [], _ => by rw [levH_nl, levH_nr]
  | 0, x :: a, y :: b, h => by simp at h
  | n + 1, x :: a, y :: b, h => by
    simp only [List.length_cons] at h
    have h1 := levH_symm n a b (by omega)
    have h2 := levH_symm n a (y :: b) (by simp only [List.length_cons]; omega)
    have h3 := levH_symm n (x :: a) b (by simp only [List.length_cons]; omega)
    rw [levH_cons, levH_cons]
    by_cases e : x = y
    · rw [if_pos e, if_pos e.symm, h1]
    · rw [if_neg e, if_neg (fun h => e h.symm), h1, h2, h3]
      omega
theorem levH_sym (a b : List Int) : levH a b = levH b a := levH_symm _ a b (Nat.le_refl _)
theorem levH_lip : ∀ (n : Nat) (a z : List Int) (x : Int), a.length + z.length ≤ n → levH (x :: a) z ≤ 1 + levH a z ∧ levH a z ≤ 1 + levH (x :: a) z
  | n, a, [], x, _ => by
    rw [levH_nr, levH_nr]
    simp only [List.length_cons]
    omega
  | 0, a, y :: z, x, h => by simp at h
  | n + 1, a, y :: z, x, h => by
    simp only [List.length_cons] at h
    have r := levH_lip n z a y (by omega)
    rw [levH_sym (y :: z) a, levH_sym z a] at r
    have s := levH_lip n a z x (by omega)
    rw [levH_cons]
    by_cases e : x = y
    · rw [if_pos e]
      omega
    · rw [if_neg e]
      omega
theorem levH_l (x : Int) (a z : List Int) : levH (x :: a) z ≤ 1 + levH a z := (levH_lip _ a z x (Nat.le_refl _)).1
theorem levH_r (y : Int) (a z : List Int) : levH a (y :: z) ≤ 1 + levH a z := by
  rw [levH_sym a (y :: z), levH_sym a z]
  exact levH_l y z a
theorem levH_left : ∀ (u w z : List Int), levH (u ++ w) z ≤ u.length + levH w z
  | [], w, z => by simp
  | x :: u, w, z => by
    have h1 := levH_l x (u ++ w) z
    have h2 := levH_left u w z
    simp only [List.cons_append, List.length_cons]
    omega
theorem levH_right (v w z : List Int) : levH w (v ++ z) ≤ v.length + levH w z := by
  rw [levH_sym w (v ++ z), levH_sym w z]
  exact levH_left v z w
theorem levH_app : ∀ (n : Nat) (u v w z : List Int), u.length + v.length ≤ n → levH (u ++ w) (v ++ z) ≤ levH u v + levH w z
  | _, [], v, w, z, _ => by
    rw [levH_nl]
    exact levH_right v w z
  | _, x :: u, [], w, z, _ => by
    rw [levH_nr]
    exact levH_left (x :: u) w z
  | 0, x :: u, y :: v, w, z, h => by simp at h
  | n + 1, x :: u, y :: v, w, z, h => by
    simp only [List.length_cons] at h
    have h1 := levH_app n u v w z (by omega)
    have h2 := levH_app n u (y :: v) w z (by simp only [List.length_cons]; omega)
    have h3 := levH_app n (x :: u) v w z (by simp only [List.length_cons]; omega)
    simp only [List.cons_append] at h2 h3 ⊢
    rw [levH_cons, levH_cons]
    by_cases e : x = y
    · rw [if_pos e, if_pos e]
      exact h1
    · rw [if_neg e, if_neg e]
      omega
theorem levH_max : ∀ (u v : List Int), levH u v ≤ max u.length v.length
  | [], v => by rw [levH_nl]; omega
  | x :: u, [] => by rw [levH_nr]; omega
  | x :: u, y :: v => by
    have := levH_max u v
    rw [levH_cons]
    simp only [List.length_cons]
    split <;> omega
theorem levH_self : ∀ u : List Int, levH u u = 0
  | [] => by rw [levH_nl]; rfl
  | x :: u => by rw [levH_cons, if_pos rfl, levH_self u]
theorem levH_zero : ∀ (u v : List Int), levH u v = 0 → u = v
  | [], v, h => by
    rw [levH_nl] at h
    exact (List.eq_nil_of_length_eq_zero h).symm
  | x :: u, [], h => by
    rw [levH_nr] at h
    simp at h
  | x :: u, y :: v, h => by
    rw [levH_cons] at h
    by_cases e : x = y
    · rw [if_pos e] at h
      rw [e, levH_zero u v h]
    · rw [if_neg e] at h
      omega
def levD : Nat → Nat → List M → Nat
  | i, d, [] => max i d
  | i, d, m :: l => if m.1 = 1 then levD (i + m.2.length) d l else if m.1 = -1 then levD i (d + m.2.length) l else max i d + levD 0 0 l
theorem levD_low : ∀ (l : List M) (I D : List Int), Typed l → levH (D ++ side 1 l).reverse (I ++ side (-1) l).reverse ≤ levD I.length D.length l
  | [], I, D, _ => by
    have := levH_max D.reverse I.reverse
    simp only [side, List.append_nil, levD, List.length_reverse] at this ⊢
    omega
  | m :: l, I, D, t => by
    rcases t m (List.mem_cons_self ..) with h | h | h
    · have ih := levD_low l [] [] t.tail
      have h1 := levH_app _ ((side 1 l).reverse ++ m.2.reverse) ((side (-1) l).reverse ++ m.2.reverse) D.reverse I.reverse (Nat.le_refl _)
      have h2 := levH_app _ (side 1 l).reverse (side (-1) l).reverse m.2.reverse m.2.reverse (Nat.le_refl _)
      rw [levH_self] at h2
      have h3 := levH_max D.reverse I.reverse
      simp only [List.length_reverse, List.nil_append, List.length_nil] at ih h3
      simp only [side, levD, h, List.reverse_append]
      simp only [show ¬ ((0 : Int) = 1) by omega, show ¬ ((0 : Int) = -1) by omega, if_false, List.reverse_append]
      omega
    · have ih := levD_low l (I ++ m.2) D t.tail
      simp only [List.length_append, List.append_assoc] at ih
      simp only [side, levD, h]
      simp only [show ¬ ((1 : Int) = -1) by omega, if_true, if_false]
      exact ih
    · have ih := levD_low l I (D ++ m.2) t.tail
      simp only [List.length_append, List.append_assoc] at ih
      simp only [side, levD, h]
      simp only [show ¬ ((-1 : Int) = 1) by omega, if_true, if_false]
      exact ih
theorem levD_high : ∀ (l : List M) (i d : Nat), Typed l → levD i d l ≤ i + d + insN l + delN l
  | [], i, d, _ => by simp only [levD, insN, delN]; omega
  | m :: l, i, d, t => by
    have h1 := levD_high l (i + m.2.length) d t.tail
    have h2 := levD_high l i (d + m.2.length) t.tail
    have h3 := levD_high l 0 0 t.tail
    rcases t m (List.mem_cons_self ..) with h | h | h <;> simp [levD, insN, delN, h] <;> omega
theorem max_ok (K : Nat) (x y : Nat) (hK : 1 ≤ K) : diffmatchpatch_max K (x : Int) (y : Int) = some ((max x y : Nat) : Int) := by
  obtain ⟨K, rfl⟩ : ∃ m, K = m + 1 := ⟨K - 1, by omega⟩
  rw [diffmatchpatch_max_eq]
  by_cases h : y < x
  · rw [br_lt (by omega)]
    congr 1
    omega
  · rw [br_ge (by omega)]
    congr 1
    omega
theorem lev_loop (K : Nat) (l : List M) (hl : wt l ≤ 1000000) (ho : Okm l) (tT : Typed l) (hK : 1 ≤ K) : ∀ (d i k n x y : Nat), i + d = l.length → n + x + y + wt (l.drop i) ≤ 1000000 → 2 * d + 2 ≤ k →
    DiffLevenshtein_l0 K k (n : Int) (x : Int) (y : Int) (enc l) (l.length : Int) (i : Int) = some ((n + levD x y (l.drop i) : Nat) : Int)
  | 0, i, k, n, x, y, h, hw, hk => by
    obtain ⟨k, rfl⟩ : ∃ m, k = m + 1 := ⟨k - 1, by omega⟩
    obtain ⟨k, rfl⟩ : ∃ m, k = m + 1 := ⟨k - 1, by omega⟩
    rw [DiffLevenshtein_l0_eq, br_ge (by omega), DiffLevenshtein_j1_eq, max_ok K x y hK, Option.bind_some, wrap_id (by omega) (by omega), List.drop_eq_nil_of_le (by omega)]
    simp only [levD]
    congr 1
  | d + 1, i, k, n, x, y, h, hw, hk => by
    have hwl := wt_len l
    have hi : i < l.length := by omega
    have hd := List.drop_eq_getElem_cons hi
    have hom := ho (l[i]) (List.getElem_mem _)
    have hty := tT (l[i]) (List.getElem_mem _)
    have hen := enc_len l
    rw [hd] at hw ⊢
    simp only [wt] at hw
    obtain ⟨k, rfl⟩ : ∃ m, k = m + 1 := ⟨k - 1, by omega⟩
    obtain ⟨k, rfl⟩ : ∃ m, k = m + 1 := ⟨k - 1, by omega⟩
    rw [DiffLevenshtein_l0_eq, br_lt (by omega), DiffLevenshtein_j0_eq, chk_le (by omega), chk_lt (by omega), nth_at TS2 (enc l) i (by omega), getE hi, wrap_id (x := (i : Int) + 1) (by omega) (by omega), show (i : Int) + 1 = ((i + 1 : Nat) : Int) by omega]
    simp only [levD]
    rcases hty with h0 | h0 | h0
    · rw [h0, br_ne (by omega), br_ne (by omega), br_eq rfl, max_ok K x y hK, Option.bind_some, wrap_id (by omega) (by omega), show (n : Int) + ((max x y : Nat) : Int) = ((n + max x y : Nat) : Int) by omega]
      have := lev_loop K l hl ho tT hK d (i + 1) k (n + max x y) 0 0 (by omega) (by omega) (by omega)
      rw [show ((0 : Nat) : Int) = 0 from rfl] at this
      rw [this]
      simp [Nat.add_assoc]
    · rw [h0, br_eq rfl, count_ok K hom (by omega) hK, Option.bind_some, wrap_id (by omega) (by omega), show (x : Int) + ((l[i]).2.length : Int) = ((x + (l[i]).2.length : Nat) : Int) by omega, lev_loop K l hl ho tT hK d (i + 1) k n _ y (by omega) (by omega) (by omega)]
      simp
    · rw [h0, br_ne (by omega), br_eq rfl, count_ok K hom (by omega) hK, Option.bind_some, wrap_id (by omega) (by omega), show (y : Int) + ((l[i]).2.length : Int) = ((y + (l[i]).2.length : Nat) : Int) by omega, lev_loop K l hl ho tT hK d (i + 1) k n x _ (by omega) (by omega) (by omega)]
      simp
theorem levenshtein_ok (K : Nat) (l : List M) (hl : wt l ≤ 900000) (ho : Okm l) (tT : Typed l) (hK : 2 * l.length + 10 ≤ K) : Levenshtein K (enc l) = some (levD 0 0 l : Int) := by
  have hwl := wt_len l
  obtain ⟨K, rfl⟩ : ∃ m, K = m + 1 := ⟨K - 1, by omega⟩
  obtain ⟨X, hX, _⟩ := plain_ok K (by omega)
  rw [Levenshtein_eq, hX, Option.bind_some, diffs_ok _ l (by omega) tT (by omega), Option.bind_some]
  obtain ⟨K, rfl⟩ : ∃ m, K = m + 1 := ⟨K - 1, by omega⟩
  rw [DiffLevenshtein_eq, enc_len]
  have := lev_loop K l (by omega) ho tT (by omega) l.length 0 K 0 0 0 (by omega) (by simp; omega) (by omega)
  rw [show ((0 : Nat) : Int) = 0 from rfl] at this
  rw [this, Option.bind_some]
  simp
end Go.Proofs.YtmlfecgppnffgaaDoor.E
