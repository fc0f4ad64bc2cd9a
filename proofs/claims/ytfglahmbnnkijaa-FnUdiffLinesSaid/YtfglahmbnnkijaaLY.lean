import Derived.Test.YtfglahmbnnkijaaLTS
/- Differences of lines as edits of a text: they lead from the text to the other one. -/
set_option linter.unusedVariables false
set_option linter.unusedSimpArgs false
namespace Go.Proofs.Ytfglahmbnnkijaa.E
open Go.Ev Go.Lcs
/-- The text of lines. -/
def jn : List ByteArray → ByteArray
  | [] => ⟨#[]⟩
  | x :: l => x ++ jn l
/-- Its bytes. -/
def jb (l : List ByteArray) : List UInt8 := l.flatMap B
theorem jb_append (a b : List ByteArray) : jb (a ++ b) = jb a ++ jb b := by simp [jb]
theorem jn_data (l : List ByteArray) : B (jn l) = jb l := by
  induction l with
  | nil => rfl
  | cons x l ih =>
    show B (x ++ jn l) = B x ++ jb l
    rw [B_append, ih]
theorem jn_size (l : List ByteArray) : (jn l).size = (jb l).length := by rw [← jn_data, B_size]
theorem jn_append (a b : List ByteArray) : jn (a ++ b) = jn a ++ jn b := by
  apply B_inj
  rw [B_append, jn_data, jn_data, jn_data, jb_append]
/-- Where a line begins. -/
def lpos (l : List ByteArray) (i : Nat) : Nat := (jb (l.take i)).length
theorem takeL_part (l : List ByteArray) (i j : Nat) (h : i ≤ j) : l.take j = l.take i ++ (l.drop i).take (j - i) := by
  have := List.take_add (l := l) (i := i) (j := j - i)
  rw [show i + (j - i) = j by omega] at this
  exact this
theorem lpos_add (l : List ByteArray) (i j : Nat) (h : i ≤ j) : lpos l j = lpos l i + (jb ((l.drop i).take (j - i))).length := by
  unfold lpos
  rw [takeL_part l i j h, jb_append, List.length_append]
theorem lpos_le (l : List ByteArray) (i j : Nat) (h : i ≤ j) : lpos l i ≤ lpos l j := by
  rw [lpos_add l i j h]
  omega
theorem lpos_size (l : List ByteArray) (i : Nat) : lpos l i ≤ (jn l).size := by
  rw [jn_size]
  have : jb l = jb (l.take i) ++ jb (l.drop i) := by rw [← jb_append, List.take_append_drop]
  unfold lpos
  rw [this, List.length_append]
  omega
theorem lpos_end (l : List ByteArray) (i : Nat) (h : l.length ≤ i) : lpos l i = (jn l).size := by
  rw [jn_size]
  unfold lpos
  rw [List.take_of_length_le h]
theorem B_jn (l : List ByteArray) : B (jn l) = jb l := jn_data l
theorem ext_lpos (l : List ByteArray) (i j : Nat) (h : i ≤ j) : (jn l).extract (lpos l i) (lpos l j) = jn ((l.drop i).take (j - i)) := by
  apply B_inj
  rw [B_extract, B_jn, B_jn, lpos_add l i j h, Nat.add_sub_cancel_left]
  have h1 : jb l = jb (l.take i) ++ jb (l.drop i) := by rw [← jb_append, List.take_append_drop]
  have h2 : jb (l.drop i) = jb ((l.drop i).take (j - i)) ++ jb ((l.drop i).drop (j - i)) := by rw [← jb_append, List.take_append_drop]
  have h3 : (jb l).drop (lpos l i) = jb (l.drop i) := by
    rw [h1]
    exact List.drop_left' rfl
  rw [h3]
  conv => lhs; rw [h2]
  exact List.take_left' rfl
theorem ext_lend (l : List ByteArray) (i : Nat) : (jn l).extract (lpos l i) (jn l).size = jn (l.drop i) := by
  by_cases h : i ≤ l.length
  · have := ext_lpos l i l.length h
    rw [lpos_end l l.length (Nat.le_refl _), List.take_of_length_le (by rw [List.length_drop]; exact Nat.le_refl _)] at this
    exact this
  · rw [lpos_end l i (by omega), ex_nil _ _ _ (Nat.le_refl _), List.drop_eq_nil_of_le (by omega)]
    rfl
/-- A difference as an edit. -/
def edL (la lb : List ByteArray) (s : Sp) : Ed := ((lpos la s.1.toNat : Int), (lpos la s.2.1.toNat : Int), jn ((lb.drop s.2.2.1.toNat).take (s.2.2.2 - s.2.2.1).toNat))
theorem sameL_part {la lb : List ByteArray} {i k n : Int} (hi : 0 ≤ i) (hk : 0 ≤ k) (hn : 0 ≤ n) (h : ∀ j, 0 ≤ j → j < n → EM (Eqs la lb) la.length lb.length (i + j) (k + j)) : (la.drop i.toNat).take n.toNat = (lb.drop k.toNat).take n.toNat := by
  apply List.ext_getElem?
  intro j
  rw [List.getElem?_take, List.getElem?_take]
  by_cases hj : j < n.toNat
  · rw [if_pos hj, if_pos hj, List.getElem?_drop, List.getElem?_drop]
    have := (h j (by omega) (by omega)).2.2.2.2
    unfold Eqs at this
    rw [show (i + (j : Int)).toNat = i.toNat + j by omega, show (k + (j : Int)).toNat = k.toNat + j by omega] at this
    exact this
  · rw [if_neg hj, if_neg hj]
theorem leadL_all (la lb : List ByteArray) : ∀ (D : List Sp) (i k : Int), 0 ≤ i → 0 ≤ k → Ld (EM (Eqs la lb) la.length lb.length) D i k la.length lb.length →
    vchk (jn la).size (lpos la i.toNat) (D.map (edL la lb)) = 0 ∧ ∀ X, apB (jn la) X (lpos la i.toNat) (D.map (edL la lb)) = X ++ jn (lb.drop k.toNat)
  | [], i, k, hi, hk, h => by
    obtain ⟨h1, h2, h3⟩ := h
    refine ⟨rfl, fun X => ?_⟩
    show X ++ (jn la).extract (Int.toNat (lpos la i.toNat : Int)) (jn la).size = _
    rw [Int.toNat_natCast, ext_lend]
    have := sameL_part hi hk (n := la.length - i) (by omega) h3
    rw [List.take_of_length_le (by rw [List.length_drop]; omega), List.take_of_length_le (by rw [List.length_drop]; omega)] at this
    rw [this]
  | s :: D, i, k, hi, hk, h => by
    obtain ⟨h1, h2, h3, h4, h5, h6, h7, h8, _, h9⟩ := h
    obtain ⟨v, ap⟩ := leadL_all la lb D s.2.1 s.2.2.2 (by omega) (by omega) h9
    have p1 := lpos_le la i.toNat s.1.toNat (by omega)
    have p2 := lpos_le la s.1.toNat s.2.1.toNat (by omega)
    have p3 := lpos_size la s.2.1.toNat
    refine ⟨?_, fun X => ?_⟩
    · show (if 0 ≤ (lpos la s.1.toNat : Int) ∧ (lpos la s.1.toNat : Int) ≤ (lpos la s.2.1.toNat : Int) ∧ (lpos la s.2.1.toNat : Int) ≤ ((jn la).size : Int) then (if (lpos la s.1.toNat : Int) < (lpos la i.toNat : Int) then 2 else vchk (jn la).size (lpos la s.2.1.toNat) (D.map (edL la lb))) else 1) = 0
      rw [if_pos (by omega), if_neg (by omega)]
      exact v
    · show apB (jn la) (X ++ ((jn la).extract (Int.toNat (lpos la i.toNat : Int)) (Int.toNat (lpos la s.1.toNat : Int)) ++ jn ((lb.drop s.2.2.1.toNat).take (s.2.2.2 - s.2.2.1).toNat))) (lpos la s.2.1.toNat) (D.map (edL la lb)) = _
      rw [ap, Int.toNat_natCast, Int.toNat_natCast, ext_lpos la _ _ (by omega)]
      have := sameL_part hi hk (n := s.1 - i) (by omega) h8
      rw [show s.1.toNat - i.toNat = (s.1 - i).toNat by omega, this, ba_assoc, ← jn_append, ← jn_append]
      congr 2
      have e1 : lb.drop k.toNat = (lb.drop k.toNat).take (s.1 - i).toNat ++ lb.drop s.2.2.1.toNat := by
        have := (List.take_append_drop (s.1 - i).toNat (lb.drop k.toNat)).symm
        rw [List.drop_drop, show k.toNat + (s.1 - i).toNat = s.2.2.1.toNat by omega] at this
        exact this
      have e2 : lb.drop s.2.2.1.toNat = (lb.drop s.2.2.1.toNat).take (s.2.2.2 - s.2.2.1).toNat ++ lb.drop s.2.2.2.toNat := by
        have := (List.take_append_drop (s.2.2.2 - s.2.2.1).toNat (lb.drop s.2.2.1.toNat)).symm
        rw [List.drop_drop, show s.2.2.1.toNat + (s.2.2.2 - s.2.2.1).toNat = s.2.2.2.toNat by omega] at this
        exact this
      rw [List.append_assoc, ← e2, ← e1]
/-- The differences' edits lead from the one text to the other. -/
theorem leadL0 (la lb : List ByteArray) {D : List Sp} (h : Ld (EM (Eqs la lb) la.length lb.length) D 0 0 la.length lb.length) : vchk (jn la).size 0 (D.map (edL la lb)) = 0 ∧ apB (jn la) ⟨#[]⟩ 0 (D.map (edL la lb)) = jn lb := by
  obtain ⟨v, ap⟩ := leadL_all la lb D 0 0 (Int.le_refl 0) (Int.le_refl 0) h
  refine ⟨v, ?_⟩
  have := ap ⟨#[]⟩
  rw [ba_nil_app] at this
  exact this
end Go.Proofs.Ytfglahmbnnkijaa.E
