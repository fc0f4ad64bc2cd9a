import Derived.Test.YtmlfecgppnffgaaDoorRN
/- The true distance as the specification counts it. -/
set_option linter.unusedVariables false
set_option linter.unusedSimpArgs false
namespace Go.Proofs.YtmlfecgppnffgaaDoor.E
open Go.Ev
def Lv (a b : List Int) (x y : Nat) (v : Int) : Prop := (levH (a.take x).reverse (b.take y).reverse : Int) = v
theorem Lv.bd {a b : List Int} {x y : Nat} {v : Int} (h : Lv a b x y v) : 0 ≤ v ∧ v ≤ x + y := by
  have := levH_max (a.take x).reverse (b.take y).reverse
  simp only [List.length_reverse, List.length_take] at this
  unfold Lv at h
  omega
theorem rev_snoc (l : List Int) (i : Nat) (h : i < l.length) : (l.take (i + 1)).reverse = l[i] :: (l.take i).reverse := by
  rw [take_snoc' l i h, List.reverse_append]
  rfl
theorem Lv.zero_x {a b : List Int} {y : Nat} (hy : y ≤ b.length) : Lv a b 0 y y := by
  unfold Lv
  rw [List.take_zero, List.reverse_nil, levH_nl]
  simp
  omega
theorem Lv.zero_y {a b : List Int} {x : Nat} (hx : x ≤ a.length) : Lv a b x 0 x := by
  unfold Lv
  rw [List.take_zero, List.reverse_nil, levH_nr]
  simp
  omega
theorem Lv.same {a b : List Int} {x y : Nat} {v : Int} (hx : x < a.length) (hy : y < b.length) (e : a[x] = b[y]) (h : Lv a b x y v) : Lv a b (x + 1) (y + 1) v := by
  unfold Lv at h ⊢
  rw [rev_snoc a x hx, rev_snoc b y hy, levH_cons, if_pos e]
  exact h
theorem Lv.least {a b : List Int} {x y : Nat} {u v w : Int} (hx : x < a.length) (hy : y < b.length) (e : a[x] ≠ b[y]) (h0 : Lv a b x y w) (h1 : Lv a b x (y + 1) u) (h2 : Lv a b (x + 1) y v) : Lv a b (x + 1) (y + 1) (1 + (if v < (if u < w then u else w) then v else (if u < w then u else w))) := by
  unfold Lv at h0 h1 h2 ⊢
  rw [rev_snoc a x hx, rev_snoc b y hy, levH_cons, if_neg e, ← rev_snoc a x hx, ← rev_snoc b y hy]
  split <;> split <;> omega
structure TrueAt (a b : List Int) (i j : Nat) (r : List Int) : Prop where
  len : r.length = b.length + 1
  new : ∀ t : Nat, t ≤ j → Lv a b (i + 1) t (rw_ r t)
  old : ∀ t : Nat, j < t → t ≤ b.length → Lv a b i t (rw_ r t)
theorem bifmin (u v : Int) : (bif ltI u v then u else v) = if u < v then u else v := by
  rw [ltI_eq]
  by_cases h : u < v
  · rw [decide_eq_true h, if_pos h]; rfl
  · rw [decide_eq_false h, if_neg h]; rfl
theorem true_in (K : Nat) (a b : List Int) (ha : a.length ≤ 100000) (hb : b.length ≤ 100000) (i : Nat) (hi : i < a.length) : ∀ (d j k : Nat) (r : List Int) (g : Int), j + d = b.length → TrueAt a b i j r → Lv a b i j g → 3 * d + 1 ≤ k → ∃ r' k', k ≤ k' + 3 * d + 1 ∧ TrueAt a b i b.length r' ∧
    DiffTrueDistance_l2 K k b r (a[i]'hi) g a (a.length : Int) (i : Int) (b.length : Int) (j : Int) = DiffTrueDistance_l1 K k' b r' a (a.length : Int) ((i + 1 : Nat) : Int)
  | 0, j, k, r, g, h, hr, hg, hk => by
    obtain ⟨k, rfl⟩ : ∃ m, k = m + 1 := ⟨k - 1, by omega⟩
    rw [DiffTrueDistance_l2_eq, br_ge (by omega), wrap_id (by omega) (by omega), show (i : Int) + 1 = ((i + 1 : Nat) : Int) by omega]
    have : j = b.length := by omega
    subst this
    exact ⟨r, k, by omega, hr, rfl⟩
  | d + 1, j, k, r, g, h, hr, hg, hk => by
    obtain ⟨k, rfl⟩ : ∃ m, k = m + 1 := ⟨k - 1, by omega⟩
    obtain ⟨k, rfl⟩ : ∃ m, k = m + 1 := ⟨k - 1, by omega⟩
    obtain ⟨k, rfl⟩ : ∃ m, k = m + 1 := ⟨k - 1, by omega⟩
    have hj : j < b.length := by omega
    have hlen := hr.len
    have hgb := hg.bd
    have o1 := hr.old (j + 1) (by omega) (by omega)
    have n1 := hr.new j (Nat.le_refl _)
    have ob := o1.bd
    have nb := n1.bd
    have er : ∀ t : Nat, nth (.int .i64) r (t : Int) = rw_ r t := fun _ => rfl
    rw [DiffTrueDistance_l2_eq, br_lt (by omega), DiffTrueDistance_j4_eq, chk_le (by omega), chk_lt (by omega), wrap_id (x := (j : Int) + 1) (by omega) (by omega), show (j : Int) + 1 = ((j + 1 : Nat) : Int) by omega, chk_le (by omega), chk_lt (by omega), rdI b j hj, er, er, br_not]
    have next : ∀ x : Int, Lv a b (i + 1) (j + 1) x → TrueAt a b i (j + 1) (r.set (j + 1) x) := by
      intro x hx
      refine ⟨by rw [List.length_set]; exact hlen, fun t ht => ?_, fun t h1 h2 => ?_⟩
      · rw [rw_set r (j + 1) t x (by omega)]
        by_cases he : t = j + 1
        · subst he
          rw [if_pos rfl]
          exact hx
        · rw [if_neg he]
          exact hr.new t (by omega)
      · rw [rw_set r (j + 1) t x (by omega), if_neg (by omega)]
        exact hr.old t (by omega) h2
    by_cases e : a[i] = b[j]
    · rw [br_eq e, DiffTrueDistance_j5_eq, wrap_id (x := (j : Int) + 1) (by omega) (by omega), show (j : Int) + 1 = ((j + 1 : Nat) : Int) by omega, chk_le (by omega), chk_lt (by omega), Int.toNat_natCast]
      obtain ⟨r', k', h1, h2, h3⟩ := true_in K a b ha hb i hi d (j + 1) k _ _ (by omega) (next _ (hg.same hi hj e)) o1 (by omega)
      exact ⟨r', k', by omega, h2, h3⟩
    · have hx := Lv.least hi hj e hg o1 n1
      have hxb := hx.bd
      rw [br_ne e, chk_le (by omega), chk_lt (by omega), bifmin, bifmin, wrap_id (x := 1 + _) (by omega) (by omega), DiffTrueDistance_j5_eq, wrap_id (x := (j : Int) + 1) (by omega) (by omega), show (j : Int) + 1 = ((j + 1 : Nat) : Int) by omega, chk_le (by omega), chk_lt (by omega), Int.toNat_natCast]
      obtain ⟨r', k', h1, h2, h3⟩ := true_in K a b ha hb i hi d (j + 1) k _ _ (by omega) (next _ hx) o1 (by omega)
      exact ⟨r', k', by omega, h2, h3⟩
theorem true_out (K : Nat) (a b : List Int) (ha : a.length ≤ 100000) (hb : b.length ≤ 100000) (C : Nat) (hC : C = 3 * b.length + 4) : ∀ (d i k : Nat) (r : List Int), i + d = a.length → r.length = b.length + 1 → (∀ t : Nat, t ≤ b.length → Lv a b i t (rw_ r t)) → d * C + 3 ≤ k →
    DiffTrueDistance_l1 K k b r a (a.length : Int) (i : Int) = some (levH a.reverse b.reverse : Int)
  | 0, i, k, r, h, hlen, hr, hk => by
    obtain ⟨k, rfl⟩ : ∃ m, k = m + 1 := ⟨k - 1, by omega⟩
    obtain ⟨k, rfl⟩ : ∃ m, k = m + 1 := ⟨k - 1, by omega⟩
    have hi : i = a.length := by omega
    subst hi
    have e1 := hr b.length (Nat.le_refl _)
    have er : nth (.int .i64) r (b.length : Int) = rw_ r b.length := rfl
    rw [DiffTrueDistance_l1_eq, br_ge (by omega), DiffTrueDistance_j3_eq, chk_le (by omega), chk_lt (by omega), er]
    unfold Lv at e1
    rw [List.take_length, List.take_length] at e1
    rw [e1]
  | d + 1, i, k, r, h, hlen, hr, hk => by
    have hmul : (d + 1) * C = d * C + C := Nat.succ_mul d C
    have hi : i < a.length := by omega
    obtain ⟨k, rfl⟩ : ∃ m, k = m + 1 := ⟨k - 1, by omega⟩
    obtain ⟨k, rfl⟩ : ∃ m, k = m + 1 := ⟨k - 1, by omega⟩
    have h0 := hr 0 (Nat.zero_le _)
    have er : nth (.int .i64) r 0 = rw_ r 0 := rfl
    rw [DiffTrueDistance_l1_eq, br_lt (by omega), DiffTrueDistance_j2_eq, chk_le (by omega), chk_lt (by omega), chk_le (by omega), chk_lt (by omega), chk_le (by omega), chk_lt (by omega), rdI a i hi, er, wrap_id (by omega) (by omega), show Int.toNat 0 = 0 from rfl]
    obtain ⟨r', k', h1, h2, h3⟩ := true_in K a b ha hb i hi b.length 0 k (r.set 0 ((i : Int) + 1)) (rw_ r 0) (by omega) ⟨by rw [List.length_set]; exact hlen, fun t ht => by
      obtain rfl : t = 0 := by omega
      rw [rw_set r 0 0 _ (by omega), if_pos rfl]
      have := Lv.zero_y (a := a) (b := b) (x := i + 1) (by omega)
      rwa [show ((i + 1 : Nat) : Int) = (i : Int) + 1 by omega] at this, fun t h1 h2 => by
      rw [rw_set r 0 t _ (by omega), if_neg (by omega)]
      exact hr t h2⟩ h0 (by omega)
    rw [show ((0 : Nat) : Int) = 0 from rfl] at h3
    rw [h3]
    exact true_out K a b ha hb C hC d (i + 1) k' r' (by omega) h2.len (fun t ht => h2.new t ht) (by omega)
theorem true_fill (K : Nat) (a b : List Int) (hb : b.length ≤ 100000) : ∀ (d i k : Nat) (r : List Int), i + d = b.length + 1 → r.length = b.length + 1 → (∀ t : Nat, t < i → rw_ r t = (t : Int)) → 2 * d + 2 ≤ k → ∃ r' k', k ≤ k' + 2 * d + 2 ∧ r'.length = b.length + 1 ∧ (∀ t : Nat, t ≤ b.length → rw_ r' t = (t : Int)) ∧
    DiffTrueDistance_l0 K k a b r (r.length : Int) (i : Int) = DiffTrueDistance_l1 K k' b r' a (a.length : Int) 0
  | 0, i, k, r, h, hlen, hr, hk => by
    obtain ⟨k, rfl⟩ : ∃ m, k = m + 1 := ⟨k - 1, by omega⟩
    obtain ⟨k, rfl⟩ : ∃ m, k = m + 1 := ⟨k - 1, by omega⟩
    rw [DiffTrueDistance_l0_eq, br_ge (by omega), DiffTrueDistance_j1_eq]
    exact ⟨r, k, by omega, hlen, fun t ht => hr t (by omega), rfl⟩
  | d + 1, i, k, r, h, hlen, hr, hk => by
    obtain ⟨k, rfl⟩ : ∃ m, k = m + 1 := ⟨k - 1, by omega⟩
    obtain ⟨k, rfl⟩ : ∃ m, k = m + 1 := ⟨k - 1, by omega⟩
    rw [DiffTrueDistance_l0_eq, br_lt (by omega), DiffTrueDistance_j0_eq, chk_le (by omega), chk_lt (by omega), Int.toNat_natCast, wrap_id (by omega) (by omega), show (i : Int) + 1 = ((i + 1 : Nat) : Int) by omega]
    obtain ⟨r', k', h1, h2, h3, h4⟩ := true_fill K a b hb d (i + 1) k (r.set i (i : Int)) (by omega) (by rw [List.length_set]; exact hlen) (fun t ht => by
      rw [rw_set r i t _ (by omega)]
      by_cases e : t = i
      · rw [if_pos e, e]
      · rw [if_neg e]
        exact hr t (by omega)) (by omega)
    rw [List.length_set] at h4
    exact ⟨r', k', by omega, h2, h3, h4⟩
theorem true_ok (K : Nat) (x y : ByteArray) (ha : (runesI x).length ≤ 100000) (hb : (runesI y).length ≤ 100000) (hK : (runesI x).length * (3 * (runesI y).length + 4) + 2 * (runesI y).length + 30 ≤ K) : DiffTrueDistance K x y = some (levH (runesI x).reverse (runesI y).reverse : Int) := by
  obtain ⟨K, rfl⟩ : ∃ m, K = m + 1 := ⟨K - 1, by omega⟩
  rw [DiffTrueDistance_eq, chk_nle (by omega), chk_nle (by omega), wrap_id (by omega) (by omega), chk_le (by omega), chk_le (by omega), chk_lt (by omega), show Int.toNat (((runesI y).length : Int) + 1) = (runesI y).length + 1 by omega]
  obtain ⟨r', k', h1, h2, h3, h4⟩ := true_fill K (runesI x) (runesI y) hb ((runesI y).length + 1) 0 K (List.replicate ((runesI y).length + 1) (0 : Int)) (by omega) (List.length_replicate ..) (fun t ht => by omega) (by omega)
  rw [show ((0 : Nat) : Int) = 0 from rfl] at h4
  rw [h4]
  refine true_out K (runesI x) (runesI y) ha hb _ rfl (runesI x).length 0 k' r' (by omega) h2 (fun t ht => ?_) (by omega)
  rw [h3 t ht]
  exact Lv.zero_x ht
end Go.Proofs.YtmlfecgppnffgaaDoor.E
