import Derived.Test.YtmlfecgppnffgaaDoorV9
/- The least number of insertions and deletions that make one list of another one; points on best ways. -/
set_option linter.unusedVariables false
set_option linter.unusedSimpArgs false
namespace Go.Proofs.YtmlfecgppnffgaaDoor.E
/-- The least number of elements to delete and insert. -/
def ed : List Int → List Int → Nat
  | [], b => b.length
  | a, [] => a.length
  | x :: a, y :: b => if x = y then ed a b else 1 + min (ed a (y :: b)) (ed (x :: a) b)
termination_by a b => a.length + b.length
theorem ed_nil_left (b : List Int) : ed [] b = b.length := by unfold ed; rfl
theorem ed_nil_right (a : List Int) : ed a [] = a.length := by cases a <;> (unfold ed; rfl)
theorem ed_cons (x y : Int) (a b : List Int) : ed (x :: a) (y :: b) = if x = y then ed a b else 1 + min (ed a (y :: b)) (ed (x :: a) b) := by
  conv => lhs; unfold ed
theorem ed_ex : ∀ (n : Nat) (a b : List Int), a.length + b.length ≤ n → ∃ c : List Int, c.Sublist a ∧ c.Sublist b ∧ ed a b + 2 * c.length = a.length + b.length
  | _, [], b, _ => ⟨[], .slnil, List.nil_sublist b, by rw [ed_nil_left]; simp⟩
  | _, x :: a, [], _ => ⟨[], List.nil_sublist _, .slnil, by rw [ed_nil_right]; simp⟩
  | 0, x :: a, y :: b, h => by simp at h
  | n + 1, x :: a, y :: b, h => by
    simp only [List.length_cons] at h
    by_cases e : x = y
    · subst e
      obtain ⟨c, h1, h2, h3⟩ := ed_ex n a b (by omega)
      refine ⟨x :: c, h1.cons_cons x, h2.cons_cons x, ?_⟩
      rw [ed_cons, if_pos rfl]
      simp only [List.length_cons]
      omega
    · rw [ed_cons, if_neg e]
      by_cases hm : ed a (y :: b) ≤ ed (x :: a) b
      · obtain ⟨c, h1, h2, h3⟩ := ed_ex n a (y :: b) (by simp only [List.length_cons]; omega)
        refine ⟨c, h1.cons x, h2, ?_⟩
        simp only [List.length_cons] at h3 ⊢
        omega
      · obtain ⟨c, h1, h2, h3⟩ := ed_ex n (x :: a) b (by simp only [List.length_cons]; omega)
        refine ⟨c, h1, h2.cons y, ?_⟩
        simp only [List.length_cons] at h3 ⊢
        omega
theorem ed_le : ∀ (n : Nat) (a b c : List Int), a.length + b.length ≤ n → c.Sublist a → c.Sublist b → ed a b + 2 * c.length ≤ a.length + b.length
  | _, [], b, c, _, h1, _ => by rw [List.sublist_nil.1 h1, ed_nil_left]; simp
  | _, x :: a, [], c, _, _, h2 => by rw [List.sublist_nil.1 h2, ed_nil_right]; simp
  | 0, x :: a, y :: b, c, h, _, _ => by simp at h
  | n + 1, x :: a, y :: b, c, h, h1, h2 => by
    simp only [List.length_cons] at h
    by_cases e : x = y
    · subst e
      rw [ed_cons, if_pos rfl]
      have h3 := ed_le n a b c.tail (by omega) h1.tail h2.tail
      simp only [List.length_tail, List.length_cons] at h3 ⊢
      omega
    · rw [ed_cons, if_neg e]
      cases h1 with
      | cons _ h1 =>
        have h3 := ed_le n a (y :: b) c (by simp only [List.length_cons]; omega) h1 h2
        simp only [List.length_cons] at h3 ⊢
        omega
      | cons_cons _ h1 =>
        cases h2 with
        | cons _ h2 =>
          have h3 := ed_le n (x :: a) b _ (by simp only [List.length_cons]; omega) (h1.cons_cons x) h2
          simp only [List.length_cons] at h3 ⊢
          omega
        | cons_cons _ h2 => exact absurd rfl e
theorem ed_exists (a b : List Int) : ∃ c : List Int, c.Sublist a ∧ c.Sublist b ∧ ed a b + 2 * c.length = a.length + b.length := ed_ex _ a b (Nat.le_refl _)
theorem ed_least {a b c : List Int} (h1 : c.Sublist a) (h2 : c.Sublist b) : ed a b + 2 * c.length ≤ a.length + b.length := ed_le _ a b c (Nat.le_refl _) h1 h2
theorem ed_symm (a b : List Int) : ed a b = ed b a := by
  obtain ⟨c, h1, h2, h3⟩ := ed_exists a b
  obtain ⟨d, g1, g2, g3⟩ := ed_exists b a
  have := ed_least h2 h1
  have := ed_least g2 g1
  omega
theorem ed_reverse (a b : List Int) : ed a.reverse b.reverse = ed a b := by
  have key : ∀ a b : List Int, ed a.reverse b.reverse ≤ ed a b := by
    intro a b
    obtain ⟨c, h1, h2, h3⟩ := ed_exists a b
    have := ed_least (a := a.reverse) (b := b.reverse) (c := c.reverse) h1.reverse h2.reverse
    simp only [List.length_reverse] at this
    omega
  have h := key a.reverse b.reverse
  rw [List.reverse_reverse, List.reverse_reverse] at h
  exact Nat.le_antisymm (key a b) h
theorem ed_append_le (a a' b b' : List Int) : ed (a ++ a') (b ++ b') ≤ ed a b + ed a' b' := by
  obtain ⟨c, h1, h2, h3⟩ := ed_exists a b
  obtain ⟨d, g1, g2, g3⟩ := ed_exists a' b'
  have := ed_least (h1.append g1) (h2.append g2)
  simp only [List.length_append] at this
  omega
theorem ed_le_sum (a b : List Int) : ed a b ≤ a.length + b.length := by
  have := ed_least (List.nil_sublist a) (List.nil_sublist b)
  simpa using this
theorem ed_cons_left (x : Int) (a b : List Int) : ed (x :: a) b ≤ ed a b + 1 ∧ ed a b ≤ ed (x :: a) b + 1 := by
  obtain ⟨c, h1, h2, h3⟩ := ed_exists a b
  obtain ⟨d, g1, g2, g3⟩ := ed_exists (x :: a) b
  have e1 := ed_least (h1.cons x) h2
  have e2 := ed_least (a := a) (b := b) (c := d.tail) g1.tail ((List.tail_sublist d).trans g2)
  simp only [List.length_tail, List.length_cons] at *
  omega
theorem ed_cons_right (y : Int) (a b : List Int) : ed a (y :: b) ≤ ed a b + 1 ∧ ed a b ≤ ed a (y :: b) + 1 := by
  have := ed_cons_left y b a
  rw [ed_symm a (y :: b), ed_symm a b]
  exact this
theorem ed_cons_same (x : Int) (a b : List Int) : ed (x :: a) (x :: b) = ed a b := by rw [ed_cons, if_pos rfl]
theorem ed_diag (x y : Int) (a b : List Int) : ed a b ≤ ed (x :: a) (y :: b) := by
  rw [ed_cons]
  split
  · exact Nat.le_refl _
  · have h1 := ed_cons_right y a b
    have h2 := ed_cons_left x a b
    omega
theorem ed_snoc_same (x : Int) (a b : List Int) : ed (a ++ [x]) (b ++ [x]) = ed a b := by
  rw [← ed_reverse, List.reverse_append, List.reverse_append]
  exact (ed_cons_same x _ _).trans (ed_reverse a b)
theorem ed_snoc_ne (x y : Int) (a b : List Int) (h : x ≠ y) : ed (a ++ [x]) (b ++ [y]) = 1 + min (ed a (b ++ [y])) (ed (a ++ [x]) b) := by
  rw [← ed_reverse, List.reverse_append, List.reverse_append]
  have e := ed_cons x y a.reverse b.reverse
  rw [if_neg h] at e
  have e1 : ed a.reverse (y :: b.reverse) = ed a (b ++ [y]) := by rw [← ed_reverse a, List.reverse_append]; rfl
  have e2 : ed (x :: a.reverse) b.reverse = ed (a ++ [x]) b := by rw [← ed_reverse (a ++ [x]), List.reverse_append]; rfl
  rw [e1, e2] at e
  exact e
theorem ed_snoc_left (x : Int) (a b : List Int) : ed (a ++ [x]) b ≤ ed a b + 1 ∧ ed a b ≤ ed (a ++ [x]) b + 1 := by
  have := ed_cons_left x a.reverse b.reverse
  rw [ed_reverse a b] at this
  rwa [← ed_reverse (a ++ [x]), List.reverse_append]
theorem ed_snoc_right (y : Int) (a b : List Int) : ed a (b ++ [y]) ≤ ed a b + 1 ∧ ed a b ≤ ed a (b ++ [y]) + 1 := by
  have := ed_snoc_left y b a
  rw [ed_symm a (b ++ [y]), ed_symm a b]
  exact this
theorem ed_snoc_diag (x y : Int) (a b : List Int) : ed a b ≤ ed (a ++ [x]) (b ++ [y]) := by
  have := ed_diag x y a.reverse b.reverse
  rw [ed_reverse] at this
  rwa [← ed_reverse (a ++ [x]), List.reverse_append, List.reverse_append]
theorem ed_self (a : List Int) : ed a a = 0 := by
  have := ed_least (List.Sublist.refl a) (List.Sublist.refl a)
  omega
theorem ed_zero {a b : List Int} (h : ed a b = 0) : a = b := by
  obtain ⟨c, h1, h2, h3⟩ := ed_exists a b
  have := h1.length_le
  have := h2.length_le
  rw [← h1.eq_of_length (by omega), ← h2.eq_of_length (by omega)]
theorem ed_diff (a b : List Int) : a.length ≤ b.length + ed a b ∧ b.length ≤ a.length + ed a b := by
  obtain ⟨c, h1, h2, h3⟩ := ed_exists a b
  have := h1.length_le
  have := h2.length_le
  omega
theorem ed_parity (a b : List Int) : ed a b % 2 = (a.length + b.length) % 2 := by
  obtain ⟨c, h1, h2, h3⟩ := ed_exists a b
  omega
/-- The least number for the first x and y elements, and for the others. -/
def edP (a b : List Int) (x y : Nat) : Nat := ed (a.take x) (b.take y)
def edS (a b : List Int) (x y : Nat) : Nat := ed (a.drop x) (b.drop y)
section
variable {a b : List Int} {x y : Nat}
theorem edP_zero (a b : List Int) : edP a b 0 0 = 0 := by simp [edP, ed_nil_left]
theorem edS_end (a b : List Int) : edS a b a.length b.length = 0 := by simp [edS, ed_nil_left]
theorem edS_zero (a b : List Int) : edS a b 0 0 = ed a b := by simp [edS]
theorem edP_end (a b : List Int) : edP a b a.length b.length = ed a b := by simp [edP]
theorem ed_through (a b : List Int) (x y : Nat) : ed a b ≤ edP a b x y + edS a b x y := by
  have := ed_append_le (a.take x) (a.drop x) (b.take y) (b.drop y)
  simpa [edP, edS] using this
theorem take_snoc' (l : List Int) (i : Nat) (h : i < l.length) : l.take (i + 1) = l.take i ++ [l[i]] := by rw [List.take_succ_eq_append_getElem h]
theorem edP_right (h : x < a.length) : edP a b (x + 1) y ≤ edP a b x y + 1 := by
  unfold edP; rw [take_snoc' a x h]; exact (ed_snoc_left _ _ _).1
theorem edP_down (h : y < b.length) : edP a b x (y + 1) ≤ edP a b x y + 1 := by
  unfold edP; rw [take_snoc' b y h]; exact (ed_snoc_right _ _ _).1
theorem edP_snake (hx : x < a.length) (hy : y < b.length) (he : a[x] = b[y]) : edP a b (x + 1) (y + 1) = edP a b x y := by
  unfold edP; rw [take_snoc' a x hx, take_snoc' b y hy, he]; exact ed_snoc_same _ _ _
theorem edP_diag (hx : x < a.length) (hy : y < b.length) : edP a b x y ≤ edP a b (x + 1) (y + 1) := by
  unfold edP; rw [take_snoc' a x hx, take_snoc' b y hy]; exact ed_snoc_diag _ _ _ _
theorem edS_right (h : x < a.length) : edS a b x y ≤ edS a b (x + 1) y + 1 := by
  unfold edS; rw [List.drop_eq_getElem_cons h]; exact (ed_cons_left _ _ _).1
theorem edS_down (h : y < b.length) : edS a b x y ≤ edS a b x (y + 1) + 1 := by
  unfold edS; rw [List.drop_eq_getElem_cons h]; exact (ed_cons_right _ _ _).1
theorem edS_snake (hx : x < a.length) (hy : y < b.length) (he : a[x] = b[y]) : edS a b x y = edS a b (x + 1) (y + 1) := by
  unfold edS; rw [List.drop_eq_getElem_cons hx, List.drop_eq_getElem_cons hy, he]; exact ed_cons_same _ _ _
theorem edS_diag (hx : x < a.length) (hy : y < b.length) : edS a b (x + 1) (y + 1) ≤ edS a b x y := by
  unfold edS; rw [List.drop_eq_getElem_cons hx, List.drop_eq_getElem_cons hy]; exact ed_diag _ _ _ _
end
/-- A point on a best way, behind d edits. -/
structure Best (a b : List Int) (d x y : Nat) : Prop where
  hx : x ≤ a.length
  hy : y ≤ b.length
  hd : edP a b x y = d
  ht : edP a b x y + edS a b x y = ed a b
theorem Best.end_ (a b : List Int) : Best a b (ed a b) a.length b.length := ⟨Nat.le_refl _, Nat.le_refl _, edP_end a b, by rw [edP_end, edS_end]; rfl⟩
/-- The last edit ahead of a point on a best way: it came from the left, or from above, and then along a snake. -/
theorem Best.back {a b : List Int} {d : Nat} : ∀ {x y : Nat}, Best a b (d + 1) x y → ∃ n, n ≤ x ∧ n ≤ y ∧ (∀ j, j < n → ∃ (h1 : x - n + j < a.length) (h2 : y - n + j < b.length), a[x - n + j] = b[y - n + j]) ∧
      ((1 ≤ x - n ∧ Best a b d (x - n - 1) (y - n)) ∨ (1 ≤ y - n ∧ Best a b d (x - n) (y - n - 1)))
  | 0, 0, h => by have := h.hd; rw [edP_zero] at this; omega
  | x + 1, 0, h => by
    refine ⟨0, Nat.zero_le _, Nat.zero_le _, fun j hj => absurd hj (Nat.not_lt_zero _), .inl ⟨by omega, ?_⟩⟩
    have h1 := h.hd
    have h2 := h.ht
    have hx := h.hx
    have e1 : ∀ x, x ≤ a.length → edP a b x 0 = x := by intro x hx; simp [edP, ed_nil_right]; omega
    rw [e1 _ hx] at h1
    have h3 := ed_through a b x 0
    have h4 := edS_right (a := a) (b := b) (x := x) (y := 0) (by omega)
    have h5 := e1 x (by omega)
    have h6 := e1 (x + 1) hx
    show Best a b d x 0
    exact ⟨by omega, by omega, by omega, by omega⟩
  | 0, y + 1, h => by
    refine ⟨0, Nat.zero_le _, Nat.zero_le _, fun j hj => absurd hj (Nat.not_lt_zero _), .inr ⟨by omega, ?_⟩⟩
    have h1 := h.hd
    have h2 := h.ht
    have hy := h.hy
    have e1 : ∀ y, y ≤ b.length → edP a b 0 y = y := by intro y hy; simp [edP, ed_nil_left]; omega
    rw [e1 _ hy] at h1
    have h3 := ed_through a b 0 y
    have h4 := edS_down (a := a) (b := b) (x := 0) (y := y) (by omega)
    have h5 := e1 y (by omega)
    have h6 := e1 (y + 1) hy
    show Best a b d 0 y
    exact ⟨by omega, by omega, by omega, by omega⟩
  | x + 1, y + 1, h => by
    have hx : x < a.length := h.hx
    have hy : y < b.length := h.hy
    have h1 := h.hd
    have h2 := h.ht
    by_cases e : a[x] = b[y]
    · have s1 := edP_snake (x := x) (y := y) hx hy e
      have s2 := edS_snake (x := x) (y := y) hx hy e
      have hb : Best a b (d + 1) x y := ⟨by omega, by omega, by omega, by omega⟩
      obtain ⟨n, n1, n2, n3, n4⟩ := Best.back hb
      refine ⟨n + 1, by omega, by omega, fun j hj => ?_, ?_⟩
      · by_cases hjn : j < n
        · obtain ⟨g1, g2, g3⟩ := n3 j hjn
          have q1 : x + 1 - (n + 1) + j = x - n + j := by omega
          have q2 : y + 1 - (n + 1) + j = y - n + j := by omega
          refine ⟨by omega, by omega, ?_⟩
          simp only [q1, q2]
          exact g3
        · have q1 : x + 1 - (n + 1) + j = x := by omega
          have q2 : y + 1 - (n + 1) + j = y := by omega
          refine ⟨by omega, by omega, ?_⟩
          simp only [q1, q2]
          exact e
      · rw [show x + 1 - (n + 1) = x - n by omega, show y + 1 - (n + 1) = y - n by omega]
        exact n4
    · refine ⟨0, Nat.zero_le _, Nat.zero_le _, fun j hj => absurd hj (Nat.not_lt_zero _), ?_⟩
      have s : edP a b (x + 1) (y + 1) = 1 + min (edP a b x (y + 1)) (edP a b (x + 1) y) := by
        unfold edP
        rw [take_snoc' a x hx, take_snoc' b y hy]
        exact ed_snoc_ne _ _ _ _ e
      have t1 := ed_through a b x (y + 1)
      have t2 := ed_through a b (x + 1) y
      have t3 := edS_right (a := a) (b := b) (x := x) (y := y + 1) hx
      have t4 := edS_down (a := a) (b := b) (x := x + 1) (y := y) hy
      by_cases hm : edP a b x (y + 1) ≤ edP a b (x + 1) y
      · exact .inl ⟨by omega, ⟨by omega, by omega, by show edP a b x (y + 1) = d; omega, by show edP a b x (y + 1) + edS a b x (y + 1) = _; omega⟩⟩
      · exact .inr ⟨by omega, ⟨by omega, by omega, by show edP a b (x + 1) y = d; omega, by show edP a b (x + 1) y + edS a b (x + 1) y = _; omega⟩⟩
theorem Best.some_ (a b : List Int) : ∀ (n d : Nat), d + n = ed a b → ∃ x y, Best a b d x y
  | 0, d, h => ⟨_, _, by have := Best.end_ a b; rwa [show ed a b = d by omega] at this⟩
  | n + 1, d, h => by
    obtain ⟨x, y, hb⟩ := Best.some_ a b n (d + 1) (by omega)
    obtain ⟨m, _, _, _, ⟨_, hq⟩ | ⟨_, hq⟩⟩ := hb.back
    · exact ⟨_, _, hq⟩
    · exact ⟨_, _, hq⟩
theorem Best.exists_ {a b : List Int} {d : Nat} (h : d ≤ ed a b) : ∃ x y, Best a b d x y := Best.some_ a b (ed a b - d) d (by omega)
/-- What is left behind a point on a best way is at least what its diagonal asks. -/
theorem Best.rest {a b : List Int} {d x y : Nat} (h : Best a b d x y) : (d : Int) + ((x : Int) - y - (a.length - b.length)) ≤ ed a b ∧ (d : Int) - ((x : Int) - y - (a.length - b.length)) ≤ ed a b := by
  have h1 := h.hd
  have h2 := h.ht
  have hx := h.hx
  have hy := h.hy
  have := ed_diff (a.drop x) (b.drop y)
  simp only [List.length_drop] at this
  unfold edS at h2
  omega
theorem Best.diag {a b : List Int} {d x y : Nat} (h : Best a b d x y) : (x : Int) - y ≤ d ∧ (y : Int) - x ≤ d ∧ (x + y + d) % 2 = 0 := by
  have h1 := h.hd
  have hx := h.hx
  have hy := h.hy
  have := ed_diff (a.take x) (b.take y)
  have hp := ed_parity (a.take x) (b.take y)
  simp only [List.length_take] at this hp
  unfold edP at h1
  omega
/-- Along a diagonal nothing is won back. -/
theorem edP_mono {a b : List Int} : ∀ (n x y : Nat), x + n ≤ a.length → y + n ≤ b.length → edP a b x y ≤ edP a b (x + n) (y + n)
  | 0, _, _, _, _ => Nat.le_refl _
  | n + 1, x, y, h1, h2 => Nat.le_trans (edP_mono n x y (by omega) (by omega)) (edP_diag (x := x + n) (y := y + n) (by omega) (by omega))
theorem edS_mono {a b : List Int} : ∀ (n x y : Nat), x + n ≤ a.length → y + n ≤ b.length → edS a b (x + n) (y + n) ≤ edS a b x y
  | 0, _, _, _, _ => Nat.le_refl _
  | n + 1, x, y, h1, h2 => Nat.le_trans (edS_diag (x := x + n) (y := y + n) (by omega) (by omega)) (edS_mono n x y (by omega) (by omega))
/-- From the ends: the same of the reversed lists. -/
theorem edP_reverse (a b : List Int) (x y : Nat) (_hx : x ≤ a.length) (_hy : y ≤ b.length) : edP a.reverse b.reverse x y = edS a b (a.length - x) (b.length - y) := by
  unfold edP edS
  rw [← ed_reverse (a.drop _), ← List.take_reverse, ← List.take_reverse]
theorem edS_reverse (a b : List Int) (x y : Nat) (hx : x ≤ a.length) (hy : y ≤ b.length) : edS a.reverse b.reverse x y = edP a b (a.length - x) (b.length - y) := by
  have h := edP_reverse a.reverse b.reverse (a.length - x) (b.length - y) (by simp) (by simp)
  simp only [List.reverse_reverse, List.length_reverse] at h
  rw [h, show a.length - (a.length - x) = x by omega, show b.length - (b.length - y) = y by omega]
theorem Best.reverse {a b : List Int} {d x y : Nat} (h : Best a b d x y) : Best a.reverse b.reverse (ed a b - d) (a.length - x) (b.length - y) := by
  have h1 := h.hd
  have h2 := h.ht
  have hx := h.hx
  have hy := h.hy
  have e1 := edP_reverse a b (a.length - x) (b.length - y) (by omega) (by omega)
  have e2 := edS_reverse a b (a.length - x) (b.length - y) (by omega) (by omega)
  rw [show a.length - (a.length - x) = x by omega, show b.length - (b.length - y) = y by omega] at e1 e2
  exact ⟨by simp, by simp, by rw [e1]; omega, by rw [e1, e2, ed_reverse]; omega⟩
end Go.Proofs.YtmlfecgppnffgaaDoor.E
