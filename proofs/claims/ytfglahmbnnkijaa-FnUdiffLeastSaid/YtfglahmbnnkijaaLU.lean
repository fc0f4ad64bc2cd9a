import Derived.Test.YtfglahmbnnkijaaLT
import Derived.Test.YtfglahmbnnkijaaSE
/- Differences of characters as edits of a text: they lead from the text to the other one. -/
set_option linter.unusedVariables false
set_option linter.unusedSimpArgs false
namespace Go.Proofs.Ytfglahmbnnkijaa.E
open Go.Ev Go.Lcs
/-- Where a character begins. -/
def pos (l : List Int) (i : Nat) : Nat := (encs8 (l.take i)).length
theorem take_part (l : List Int) (i j : Nat) (h : i ≤ j) : l.take j = l.take i ++ (l.drop i).take (j - i) := by
  have := List.take_add (l := l) (i := i) (j := j - i)
  rw [show i + (j - i) = j by omega] at this
  exact this
theorem pos_add (l : List Int) (i j : Nat) (h : i ≤ j) : pos l j = pos l i + (encs8 ((l.drop i).take (j - i))).length := by
  unfold pos
  rw [take_part l i j h, encs8_append, List.length_append]
theorem pos_le (l : List Int) (i j : Nat) (h : i ≤ j) : pos l i ≤ pos l j := by
  rw [pos_add l i j h]
  omega
theorem pos_size (l : List Int) (i : Nat) : pos l i ≤ (strOfRunes l).size := by
  rw [strOfRunes_size]
  have : encs8 l = encs8 (l.take i) ++ encs8 (l.drop i) := by rw [← encs8_append, List.take_append_drop]
  unfold pos
  rw [this, List.length_append]
  omega
theorem pos_end (l : List Int) (i : Nat) (h : l.length ≤ i) : pos l i = (strOfRunes l).size := by
  rw [strOfRunes_size]
  unfold pos
  rw [List.take_of_length_le h]
theorem B_str (l : List Int) : B (strOfRunes l) = encs8 l := strOfRunes_data l
theorem ext_pos (l : List Int) (i j : Nat) (h : i ≤ j) : (strOfRunes l).extract (pos l i) (pos l j) = strOfRunes ((l.drop i).take (j - i)) := by
  apply B_inj
  rw [B_extract, B_str, B_str, pos_add l i j h, Nat.add_sub_cancel_left]
  have h1 : encs8 l = encs8 (l.take i) ++ encs8 (l.drop i) := by rw [← encs8_append, List.take_append_drop]
  have h2 : encs8 (l.drop i) = encs8 ((l.drop i).take (j - i)) ++ encs8 ((l.drop i).drop (j - i)) := by rw [← encs8_append, List.take_append_drop]
  have h3 : (encs8 l).drop (pos l i) = encs8 (l.drop i) := by
    rw [h1]
    exact List.drop_left' rfl
  rw [h3]
  conv => lhs; rw [h2]
  exact List.take_left' rfl
theorem ext_end (l : List Int) (i : Nat) : (strOfRunes l).extract (pos l i) (strOfRunes l).size = strOfRunes (l.drop i) := by
  by_cases h : i ≤ l.length
  · have := ext_pos l i l.length h
    rw [pos_end l l.length (Nat.le_refl _), List.take_of_length_le (by rw [List.length_drop]; exact Nat.le_refl _)] at this
    exact this
  · rw [pos_end l i (by omega), ex_nil _ _ _ (Nat.le_refl _), List.drop_eq_nil_of_le (by omega)]
    rfl
/-- A difference as an edit. -/
def edR (la lb : List Int) (s : Sp) : Ed := ((pos la s.1.toNat : Int), (pos la s.2.1.toNat : Int), strOfRunes ((lb.drop s.2.2.1.toNat).take (s.2.2.2 - s.2.2.1).toNat))
theorem same_part {la lb : List Int} {i k n : Int} (hi : 0 ≤ i) (hk : 0 ≤ k) (hn : 0 ≤ n) (h : ∀ j, 0 ≤ j → j < n → EM (Eqs la lb) la.length lb.length (i + j) (k + j)) : (la.drop i.toNat).take n.toNat = (lb.drop k.toNat).take n.toNat := by
  apply List.ext_getElem?
  intro j
  rw [List.getElem?_take, List.getElem?_take]
  by_cases hj : j < n.toNat
  · rw [if_pos hj, if_pos hj, List.getElem?_drop, List.getElem?_drop]
    have := (h j (by omega) (by omega)).2.2.2.2
    unfold Eqs at this
    rw [show (i + (j : Int)).toNat = i.toNat + j by omega, show (k + (j : Int)).toNat = k.toNat + j by omega] at this
    exact this
  · rw [if_neg hj, if_neg hj]
theorem lead_all (la lb : List Int) : ∀ (D : List Sp) (i k : Int), 0 ≤ i → 0 ≤ k → Ld (EM (Eqs la lb) la.length lb.length) D i k la.length lb.length →
    vchk (strOfRunes la).size (pos la i.toNat) (D.map (edR la lb)) = 0 ∧ ∀ X, apB (strOfRunes la) X (pos la i.toNat) (D.map (edR la lb)) = X ++ strOfRunes (lb.drop k.toNat)
  | [], i, k, hi, hk, h => by
    obtain ⟨h1, h2, h3⟩ := h
    refine ⟨rfl, fun X => ?_⟩
    show X ++ (strOfRunes la).extract (Int.toNat (pos la i.toNat : Int)) (strOfRunes la).size = _
    rw [Int.toNat_natCast, ext_end]
    have := same_part hi hk (n := la.length - i) (by omega) h3
    rw [List.take_of_length_le (by rw [List.length_drop]; omega), List.take_of_length_le (by rw [List.length_drop]; omega)] at this
    rw [this]
  | s :: D, i, k, hi, hk, h => by
    obtain ⟨h1, h2, h3, h4, h5, h6, h7, h8, _, h9⟩ := h
    obtain ⟨v, ap⟩ := lead_all la lb D s.2.1 s.2.2.2 (by omega) (by omega) h9
    have p1 := pos_le la i.toNat s.1.toNat (by omega)
    have p2 := pos_le la s.1.toNat s.2.1.toNat (by omega)
    have p3 := pos_size la s.2.1.toNat
    refine ⟨?_, fun X => ?_⟩
    · show (if 0 ≤ (pos la s.1.toNat : Int) ∧ (pos la s.1.toNat : Int) ≤ (pos la s.2.1.toNat : Int) ∧ (pos la s.2.1.toNat : Int) ≤ ((strOfRunes la).size : Int) then (if (pos la s.1.toNat : Int) < (pos la i.toNat : Int) then 2 else vchk (strOfRunes la).size (pos la s.2.1.toNat) (D.map (edR la lb))) else 1) = 0
      rw [if_pos (by omega), if_neg (by omega)]
      exact v
    · show apB (strOfRunes la) (X ++ ((strOfRunes la).extract (Int.toNat (pos la i.toNat : Int)) (Int.toNat (pos la s.1.toNat : Int)) ++ strOfRunes ((lb.drop s.2.2.1.toNat).take (s.2.2.2 - s.2.2.1).toNat))) (pos la s.2.1.toNat) (D.map (edR la lb)) = _
      rw [ap, Int.toNat_natCast, Int.toNat_natCast, ext_pos la _ _ (by omega)]
      have := same_part hi hk (n := s.1 - i) (by omega) h8
      rw [show s.1.toNat - i.toNat = (s.1 - i).toNat by omega, this, ba_assoc, ← strOfRunes_append, ← strOfRunes_append]
      congr 2
      have e1 : lb.drop k.toNat = (lb.drop k.toNat).take (s.1 - i).toNat ++ lb.drop s.2.2.1.toNat := by
        have := (List.take_append_drop (s.1 - i).toNat (lb.drop k.toNat)).symm
        rw [List.drop_drop, show k.toNat + (s.1 - i).toNat = s.2.2.1.toNat by omega] at this
        exact this
      have e2 : lb.drop s.2.2.1.toNat = (lb.drop s.2.2.1.toNat).take (s.2.2.2 - s.2.2.1).toNat ++ lb.drop s.2.2.2.toNat := by
        have := (List.take_append_drop (s.2.2.2 - s.2.2.1).toNat (lb.drop s.2.2.1.toNat)).symm
        rw [List.drop_drop, show s.2.2.1.toNat + (s.2.2.2 - s.2.2.1).toNat = s.2.2.2.toNat by omega] at this
        exact this
      rw [List.append_assoc, ← e2, ← e1]
/-- The differences' edits lead from the one text to the other. -/
theorem lead0 (la lb : List Int) {D : List Sp} (h : Ld (EM (Eqs la lb) la.length lb.length) D 0 0 la.length lb.length) : vchk (strOfRunes la).size 0 (D.map (edR la lb)) = 0 ∧ apB (strOfRunes la) ⟨#[]⟩ 0 (D.map (edR la lb)) = strOfRunes lb := by
  obtain ⟨v, ap⟩ := lead_all la lb D 0 0 (Int.le_refl 0) (Int.le_refl 0) h
  refine ⟨v, ?_⟩
  have := ap ⟨#[]⟩
  rw [ba_nil_app] at this
  exact this
/-! ### borders of characters, right texts -/
theorem bt_eq (s : ByteArray) (i : Nat) (b : UInt8) (h : (B s)[i]? = some b) : bt s (i : Int) = (b.toNat : Int) := by
  obtain ⟨hl, hb⟩ := List.getElem?_eq_some_iff.1 h
  rw [B_size] at hl
  unfold bt
  rw [dif_pos (show (i : Int).toNat < s.size by rw [Int.toNat_natCast]; exact hl)]
  congr 2
theorem CleanChars_ok (K : Nat) (s : ByteArray) (m : Int) (hm : m ≤ 1000000) (hK : 1 ≤ K) : CleanChars K s m = some (decide ((s.size : Int) ≤ m ∧ strOfRunes (runesI s) = s)) := by
  obtain ⟨K, rfl⟩ : ∃ m, K = m + 1 := ⟨K - 1, by omega⟩
  have hr := runesI_le s
  rw [CleanChars_eq]
  by_cases h : (s.size : Int) ≤ m
  · rw [br_le h, chk_nle (by omega), eqS_iff]
    congr 1
    exact decide_eq_decide.2 ⟨fun h2 => ⟨h, h2⟩, fun h2 => h2.2⟩
  · rw [br_gt (by omega), decide_eq_false (fun h2 => h h2.1)]
theorem EditsLead_ok (K : Nat) (h : Hp) (r : Rf) (S : List Ed) (a b : ByteArray) (hs : SlL h 41 TS1 r S) (hl : S.length ≤ 1000) (ha : a.size ≤ 100000) (hb : ∀ e ∈ S, e.2.2.size ≤ 100000) (hv : vchk a.size 0 S = 0) (hK : 10000 ≤ K) : EditsLead K h r a b = some (h, eqS (apB a ⟨#[]⟩ 0 S) b) := by
  obtain ⟨K, rfl⟩ : ∃ m, K = m + 1 := ⟨K - 1, by omega⟩
  have hin := (vchk_in (a.size : Int) S 0).1 hv
  have hap := (vchk_apart0 (a.size : Int) S).1 hv
  obtain ⟨k, hk⟩ : ∃ q, K = q + 2 := ⟨K - 2, by omega⟩
  have j0 : EditsLead_j0 K K r a b false h = EditsLead_j0 K (k + 2) r a b false h := by rw [← hk]
  rw [EditsLead_eq, EditsIn_ok K h r S _ hs hl (by omega), hin, obs]
  show br (!true) _ (Option.bind (EditsApart K h r) fun r1 => EditsLead_j0 K K r a b (!(r1).2) (r1).1) = _
  rw [Bool.not_true, br_false, EditsApart_ok K h r S hs hl (by omega), hap, obs]
  show EditsLead_j0 K K r a b (!true) h = _
  rw [Bool.not_true, j0, EditsLead_j0_eq, br_false, EditsLead_j1_eq]
  have fin : ∀ k, EditsLead_j3 K (k + 1) r a b h = some (h, eqS (apB a ⟨#[]⟩ 0 S) b) := by
    intro k
    rw [EditsLead_j3_eq, EditsApplied_ok K a h r S hs hb ha hl hv (by omega), obs]
  have key : ∀ (R P : List Ed) (x : Ed) (k : Nat), P ++ x :: R = S → 2 * R.length + 2 ≤ k → inB a.size (x :: R) = true → apartB (x :: R) = true → EditsLead_l0 K k r a b ((P.length : Int) + 1) h = some (h, eqS (apB a ⟨#[]⟩ 0 S) b) := by
    intro R
    induction R with
    | nil =>
      intro P x k hP hk _ _
      obtain ⟨k, rfl⟩ : ∃ m, k = m + 2 := ⟨k - 2, by omega⟩
      have hll : S.length = P.length + 1 := by rw [← hP]; simp
      rw [EditsLead_l0_eq, hs.rlen, br_ge (by omega)]
      exact fin k
    | cons y R ih =>
      intro P x k hP hk hi hap
      simp only [List.length_cons] at hk
      have hll : S.length = P.length + (R.length + 2) := by rw [← hP]; simp
      obtain ⟨k, rfl⟩ : ∃ m, k = m + 2 := ⟨k - 2, by omega⟩
      have g1 : S[P.length]'(by omega) = x := by
        have : S[P.length]? = some x := by rw [← hP]; simp
        exact (List.getElem?_eq_some_iff.1 this).2
      have g2 : S[P.length + 1]'(by omega) = y := by
        have : S[P.length + 1]? = some y := by rw [← hP]; simp [List.getElem?_append_right]
        exact (List.getElem?_eq_some_iff.1 this).2
      have a1 := SlL.ld3 hs (P.length + 1) (by omega)
      have a2 := SlL.ld3 hs P.length (by omega)
      rw [g2] at a1
      rw [g1] at a2
      have hi' := hi
      unfold inB at hi'
      rw [List.all_cons, List.all_cons, Bool.and_eq_true, Bool.and_eq_true, decide_eq_true_eq, decide_eq_true_eq] at hi'
      have hap : (decide (x.2.1 ≤ y.1) && apartB (y :: R)) = true := hap
      rw [Bool.and_eq_true, decide_eq_true_eq] at hap
      have hlt : eLt y x = false := by
        unfold eLt
        rw [decide_eq_false (by omega), Bool.false_or]
        by_cases hq : y.1 = x.1
        · rw [decide_eq_true hq, decide_eq_false (by omega)]
          rfl
        · rw [decide_eq_false hq]
          rfl
      have w : IntKind.wrap IntKind.i64 (((P.length + 1 : Nat) : Int) - 1) = (P.length : Int) := by rw [wrap_id (by omega) (by omega)]; omega
      rw [show (P.length : Int) + 1 = ((P.length + 1 : Nat) : Int) by omega, EditsLead_l0_eq, hs.rlen, br_lt (by omega), EditsLead_j2_eq, hs.rlen, w]
      clear w
      rw [chk_le (by omega), chk_lt (by omega), a1, obs, chk_le (by omega), chk_lt (by omega), a2, obs, EditBefore_ok K y x (by omega), hlt, obs, br_false, wrap_id (by omega) (by omega)]
      have := ih (P ++ [x]) y k (by rw [List.append_assoc]; exact hP) (by omega) (by unfold inB; rw [List.all_cons, Bool.and_eq_true, decide_eq_true_eq]; exact hi'.2) hap.2
      rw [List.length_append] at this
      exact this
  by_cases hS : S = []
  · obtain ⟨k, rfl⟩ : ∃ m, k = m + 1 := ⟨k - 1, by omega⟩
    rw [EditsLead_l0_eq, hs.rlen, hS, br_ge (by show ((0 : Nat) : Int) ≤ 1; omega), ← hS]
    obtain ⟨k, rfl⟩ : ∃ m, k = m + 1 := ⟨k - 1, by omega⟩
    exact fin _
  · obtain ⟨x, R, hx⟩ := List.exists_cons_of_ne_nil hS
    have := key R [] x k hx.symm (by rw [hx] at hl; simp only [List.length_cons] at hl; omega) (by rw [← hx]; exact hin) (by rw [← hx]; exact hap)
    exact this
end Go.Proofs.Ytfglahmbnnkijaa.E
