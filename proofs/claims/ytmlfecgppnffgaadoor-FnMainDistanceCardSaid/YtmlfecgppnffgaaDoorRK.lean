import Derived.Test.YtmlfecgppnffgaaDoorRJ
/- The least number as the specification counts it. -/
set_option linter.unusedVariables false
set_option linter.unusedSimpArgs false
namespace Go.Proofs.YtmlfecgppnffgaaDoor.E
open Go.Ev
def Lc (a b : List Int) (x y : Nat) (v : Int) : Prop := (edP a b x y : Int) + 2 * v = x + y
theorem Lc.bd {a b : List Int} {x y : Nat} {v : Int} (h : Lc a b x y v) : 0 ≤ v ∧ 2 * v ≤ x + y := by
  have := ed_le_sum (a.take x) (b.take y)
  simp only [List.length_take] at this
  unfold Lc at h
  unfold edP at h
  omega
theorem Lc.zero_x {a b : List Int} {y : Nat} (hy : y ≤ b.length) : Lc a b 0 y 0 := by
  unfold Lc
  rw [edP_0y hy]
  omega
theorem Lc.zero_y {a b : List Int} {x : Nat} (hx : x ≤ a.length) : Lc a b x 0 0 := by
  unfold Lc
  rw [edP_x0 hx]
  omega
theorem Lc.same {a b : List Int} {x y : Nat} {v : Int} (hx : x < a.length) (hy : y < b.length) (e : a[x] = b[y]) (h : Lc a b x y v) : Lc a b (x + 1) (y + 1) (v + 1) := by
  unfold Lc at h ⊢
  rw [edP_snake hx hy e]
  omega
theorem Lc.max {a b : List Int} {x y : Nat} {u v : Int} (hx : x < a.length) (hy : y < b.length) (e : a[x] ≠ b[y]) (h1 : Lc a b x (y + 1) u) (h2 : Lc a b (x + 1) y v) : Lc a b (x + 1) (y + 1) (if u < v then v else u) := by
  unfold Lc at h1 h2 ⊢
  have s : edP a b (x + 1) (y + 1) = 1 + min (edP a b x (y + 1)) (edP a b (x + 1) y) := by
    unfold edP
    rw [take_snoc' a x hx, take_snoc' b y hy]
    exact ed_snoc_ne _ _ _ _ e
  split <;> omega
def rw_ (r : List Int) (t : Nat) : Int := nth (.int .i64) r (t : Int)
theorem rw_set (r : List Int) (t s : Nat) (x : Int) (ht : t < r.length) : rw_ (r.set t x) s = if s = t then x else rw_ r s := by
  unfold rw_ nth
  rw [List.getD_eq_getElem?_getD, List.getD_eq_getElem?_getD, List.getElem?_set]
  by_cases h : s = t
  · subst h
    rw [if_pos rfl, if_pos (by omega), if_pos (by omega)]
    rfl
  · rw [if_neg h, if_neg (by omega)]
structure RowAt (a b : List Int) (i j : Nat) (r : List Int) : Prop where
  len : r.length = b.length + 1
  new : ∀ t : Nat, t ≤ j → Lc a b (i + 1) t (rw_ r t)
  old : ∀ t : Nat, j < t → t ≤ b.length → Lc a b i t (rw_ r t)
theorem least_in (K : Nat) (a b : List Int) (ha : a.length ≤ 100000) (hb : b.length ≤ 100000) (i : Nat) (hi : i < a.length) : ∀ (d j k : Nat) (r : List Int) (g : Int), j + d = b.length → RowAt a b i j r → Lc a b i j g → 2 * d + 1 ≤ k → ∃ r' k', k ≤ k' + 2 * d + 1 ∧ RowAt a b i b.length r' ∧
    DiffLeast_l1 K k a b r (a[i]'hi) g (a.length : Int) (i : Int) (b.length : Int) (j : Int) = DiffLeast_l0 K k' a b r' (a.length : Int) ((i + 1 : Nat) : Int)
  | 0, j, k, r, g, h, hr, hg, hk => by
    obtain ⟨k, rfl⟩ : ∃ m, k = m + 1 := ⟨k - 1, by omega⟩
    rw [DiffLeast_l1_eq, br_ge (by omega), wrap_id (by omega) (by omega), show (i : Int) + 1 = ((i + 1 : Nat) : Int) by omega]
    have : j = b.length := by omega
    subst this
    exact ⟨r, k, by omega, hr, rfl⟩
  | d + 1, j, k, r, g, h, hr, hg, hk => by
    obtain ⟨k, rfl⟩ : ∃ m, k = m + 1 := ⟨k - 1, by omega⟩
    obtain ⟨k, rfl⟩ : ∃ m, k = m + 1 := ⟨k - 1, by omega⟩
    have hj : j < b.length := by omega
    have hlen := hr.len
    have hgb := hg.bd
    have o1 := hr.old (j + 1) (by omega) (by omega)
    have n1 := hr.new j (Nat.le_refl _)
    have ob := o1.bd
    have nb := n1.bd
    have er : ∀ t : Nat, nth (.int .i64) r (t : Int) = rw_ r t := fun _ => rfl
    rw [DiffLeast_l1_eq, br_lt (by omega), DiffLeast_j2_eq, chk_le (by omega), chk_lt (by omega), wrap_id (x := (j : Int) + 1) (by omega) (by omega), show (j : Int) + 1 = ((j + 1 : Nat) : Int) by omega, chk_le (by omega), chk_lt (by omega), rdI b j hj, er, er, Int.toNat_natCast]
    have next : ∀ x : Int, Lc a b (i + 1) (j + 1) x → RowAt a b i (j + 1) (r.set (j + 1) x) := by
      intro x hx
      refine ⟨by rw [List.length_set]; exact hlen, fun t ht => ?_, fun t h1 h2 => ?_⟩
      · rw [rw_set r (j + 1) t x (by omega)]
        by_cases he : t = j + 1
        · subst he
          rw [if_pos rfl]
          exact hx
        · rw [if_neg he]
          exact hr.new t (by omega)
      · rw [rw_set r (j + 1) t x (by omega), if_neg (by omega)]
        exact hr.old t (by omega) h2
    by_cases e : a[i] = b[j]
    · rw [br_eq e, chk_le (by omega), chk_lt (by omega), wrap_id (x := g + 1) (by omega) (by omega)]
      obtain ⟨r', k', h1, h2, h3⟩ := least_in K a b ha hb i hi d (j + 1) k _ _ (by omega) (next _ (hg.same hi hj e)) o1 (by omega)
      exact ⟨r', k', by omega, h2, h3⟩
    · rw [br_ne e, chk_le (by omega), chk_lt (by omega), chk_le (by omega), chk_lt (by omega)]
      have hm : (bif ltI (rw_ r (j + 1)) (rw_ r j) then rw_ r j else rw_ r (j + 1)) = if rw_ r (j + 1) < rw_ r j then rw_ r j else rw_ r (j + 1) := by
        rw [ltI_eq]
        by_cases hc : rw_ r (j + 1) < rw_ r j
        · rw [decide_eq_true hc, if_pos hc]; rfl
        · rw [decide_eq_false hc, if_neg hc]; rfl
      rw [hm]
      obtain ⟨r', k', h1, h2, h3⟩ := least_in K a b ha hb i hi d (j + 1) k _ _ (by omega) (next _ (Lc.max hi hj e o1 n1)) o1 (by omega)
      exact ⟨r', k', by omega, h2, h3⟩
theorem least_out (K : Nat) (a b : List Int) (ha : a.length ≤ 100000) (hb : b.length ≤ 100000) (C : Nat) (hC : C = 2 * b.length + 4) : ∀ (d i k : Nat) (r : List Int), i + d = a.length → r.length = b.length + 1 → (∀ t : Nat, t ≤ b.length → Lc a b i t (rw_ r t)) → d * C + 3 ≤ k →
    DiffLeast_l0 K k a b r (a.length : Int) (i : Int) = some (ed a b : Int)
  | 0, i, k, r, h, hlen, hr, hk => by
    obtain ⟨k, rfl⟩ : ∃ m, k = m + 1 := ⟨k - 1, by omega⟩
    obtain ⟨k, rfl⟩ : ∃ m, k = m + 1 := ⟨k - 1, by omega⟩
    have hi : i = a.length := by omega
    subst hi
    have e1 := hr b.length (Nat.le_refl _)
    have eb := e1.bd
    have er : nth (.int .i64) r (b.length : Int) = rw_ r b.length := rfl
    rw [DiffLeast_l0_eq, br_ge (by omega), DiffLeast_j1_eq, chk_le (by omega), chk_lt (by omega), er, wrap_id (x := (a.length : Int) + (b.length : Int)) (by omega) (by omega), wrap_id (x := 2 * rw_ r b.length) (by omega) (by omega), wrap_id (by omega) (by omega)]
    unfold Lc at e1
    rw [edP_end] at e1
    congr 1
    omega
  | d + 1, i, k, r, h, hlen, hr, hk => by
    have hmul : (d + 1) * C = d * C + C := Nat.succ_mul d C
    have hi : i < a.length := by omega
    obtain ⟨k, rfl⟩ : ∃ m, k = m + 1 := ⟨k - 1, by omega⟩
    obtain ⟨k, rfl⟩ : ∃ m, k = m + 1 := ⟨k - 1, by omega⟩
    rw [DiffLeast_l0_eq, br_lt (by omega), DiffLeast_j0_eq, chk_le (by omega), chk_lt (by omega), rdI a i hi]
    have h0 := hr 0 (Nat.zero_le _)
    have e0 : rw_ r 0 = 0 := by
      have := (Lc.zero_y (a := a) (b := b) (x := i) (by omega))
      unfold Lc at h0 this
      omega
    obtain ⟨r', k', h1, h2, h3⟩ := least_in K a b ha hb i hi b.length 0 k r 0 (by omega) ⟨hlen, fun t ht => by
      obtain rfl : t = 0 := by omega
      rw [e0]
      exact Lc.zero_y (by omega), fun t _ h2 => hr t h2⟩ (Lc.zero_y (by omega)) (by omega)
    rw [show ((0 : Nat) : Int) = 0 from rfl] at h3
    rw [h3]
    exact least_out K a b ha hb C hC d (i + 1) k' r' (by omega) h2.len (fun t ht => h2.new t ht) (by omega)
theorem least_ok (K : Nat) (x y : ByteArray) (ha : (runesI x).length ≤ 100000) (hb : (runesI y).length ≤ 100000) (hK : (runesI x).length * (2 * (runesI y).length + 4) + 10 ≤ K) : DiffLeast K x y = some (ed (runesI x) (runesI y) : Int) := by
  obtain ⟨K, rfl⟩ : ∃ m, K = m + 1 := ⟨K - 1, by omega⟩
  rw [DiffLeast_eq, chk_nle (by omega), chk_nle (by omega), wrap_id (by omega) (by omega), chk_le (by omega), chk_le (by omega), chk_lt (by omega), show Int.toNat (((runesI y).length : Int) + 1) = (runesI y).length + 1 by omega]
  refine least_out K (runesI x) (runesI y) ha hb _ rfl (runesI x).length 0 K _ (by omega) (List.length_replicate ..) (fun t ht => ?_) (by omega)
  have : rw_ (List.replicate ((runesI y).length + 1) (0 : Int)) t = 0 := by
    unfold rw_ nth
    rw [List.getD_eq_getElem?_getD, List.getElem?_replicate, if_pos (by omega)]
    rfl
  rw [this]
  exact Lc.zero_x ht
end Go.Proofs.YtmlfecgppnffgaaDoor.E
