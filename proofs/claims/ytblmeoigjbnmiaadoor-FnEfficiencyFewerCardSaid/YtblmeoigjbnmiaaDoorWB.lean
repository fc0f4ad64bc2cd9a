import Derived.Test.YtblmeoigjbnmiaaDoorWA
/- What holds while equalities are looked through that may be given up, and how it goes on. -/
set_option linter.unusedVariables false
set_option linter.unusedSimpArgs false
namespace Go.Proofs.YtblmeoigjbnmiaaDoor.E
open Go.Ev
structure EInv (l : List M) (p : Nat) (ds : List Nat) (last : List Int) (pi pd qi qd : Bool) : Prop where
  le : p ≤ l.length
  lt : ∀ d ∈ ds, d < p
  desc : ds.Pairwise (fun a b => b < a)
  qd' : qd = true → tfl (-1) false (l.take p) = true
  qi' : qi = true → tfl 1 false (l.take p) = true
  pre : last ≠ [] → ∃ A B C ds', ds = A.length :: ds' ∧ l = A ++ (0, last) :: (B ++ C) ∧ p = A.length + 1 + B.length ∧ Edits B ∧ (pd = true → tfl (-1) false A = true) ∧ (pi = true → tfl 1 false A = true)
theorem EInv.start (l : List M) : EInv l 0 [] [] false false false false := ⟨Nat.zero_le _, by simp, List.Pairwise.nil, fun h => (by cases h), fun h => (by cases h), fun h => absurd rfl h⟩
theorem at_split {l : List M} {p : Nat} {m : M} (h : l[p]? = some m) : l = l.take p ++ m :: l.drop (p + 1) ∧ (l.take p).length = p ∧ p < l.length := by
  obtain ⟨hp, e⟩ := List.getElem?_eq_some_iff.1 h
  refine ⟨?_, by rw [List.length_take]; omega, hp⟩
  rw [← e]
  conv => lhs; rw [← List.take_append_drop p l]
  rw [List.drop_eq_getElem_cons hp]
theorem take_succ_at {l : List M} {p : Nat} {m : M} (h : l[p]? = some m) : l.take (p + 1) = l.take p ++ [m] := by
  obtain ⟨hp, e⟩ := List.getElem?_eq_some_iff.1 h
  rw [List.take_succ_eq_append_getElem hp, e]
theorem EInv.cand {l : List M} {p : Nat} {ds : List Nat} {last : List Int} {pi pd qi qd : Bool} (h : EInv l p ds last pi pd qi qd) {x : List Int} (hp : l[p]? = some (0, x)) : EInv l (p + 1) (p :: ds) x qi qd false false := by
  obtain ⟨h1, h2, h3⟩ := at_split hp
  refine ⟨h3, fun d hd => ?_, List.pairwise_cons.2 ⟨fun d hd => h.lt d hd, h.desc⟩, fun h => (by cases h), fun h => (by cases h), fun _ => ⟨l.take p, [], l.drop (p + 1), ds, by rw [h2], h1, by rw [h2]; rfl, Edits.nil, h.qd', h.qi'⟩⟩
  rcases List.mem_cons.1 hd with rfl | hd
  · exact Nat.lt_succ_self _
  · exact Nat.lt_succ_of_lt (h.lt d hd)
theorem EInv.drop {l : List M} {p : Nat} {ds : List Nat} {last : List Int} {pi pd qi qd : Bool} (h : EInv l p ds last pi pd qi qd) {m : M} (hp : l[p]? = some m) (pi' pd' : Bool) : EInv l (p + 1) [] [] pi' pd' false false := by
  obtain ⟨_, _, h3⟩ := at_split hp
  exact ⟨h3, by simp, List.Pairwise.nil, fun h => (by cases h), fun h => (by cases h), fun h => absurd rfl h⟩
theorem EInv.edit {l : List M} {p : Nat} {ds : List Nat} {last : List Int} {pi pd qi qd : Bool} (h : EInv l p ds last pi pd qi qd) {m : M} (hp : l[p]? = some m) (hm : m.1 = 1 ∨ m.1 = -1) : EInv l (p + 1) ds last pi pd (qi || decide (m.1 = 1)) (qd || decide (m.1 = -1)) := by
  obtain ⟨_, _, h3⟩ := at_split hp
  refine ⟨h3, fun d hd => Nat.lt_succ_of_lt (h.lt d hd), h.desc, fun hq => ?_, fun hq => ?_, fun hl => ?_⟩
  · rw [take_succ_at hp, tfl_app]
    simp only [tfl, if_neg (edit_ne hm)]
    rw [Bool.or_eq_true] at hq ⊢
    exact hq.imp h.qd' id
  · rw [take_succ_at hp, tfl_app]
    simp only [tfl, if_neg (edit_ne hm)]
    rw [Bool.or_eq_true] at hq ⊢
    exact hq.imp h.qi' id
  · obtain ⟨A, B, C, ds', e1, e2, e3, e4, e5, e6⟩ := h.pre hl
    subst e2
    have e7 : C[0]? = some m := by
      rw [e3, List.getElem?_append_right (by omega), show A.length + 1 + B.length - A.length = B.length + 1 by omega, List.getElem?_cons_succ, List.getElem?_append_right (Nat.le_refl _), Nat.sub_self] at hp
      exact hp
    match C, e7 with
    | c :: C, e7 =>
      cases e7
      exact ⟨A, B ++ [m], C, ds', e1, by simp, by simp; omega, e4.snoc hm, e5, e6⟩
theorem EInv.split {l : List M} {p : Nat} {ds : List Nat} {last : List Int} {pi pd qi qd : Bool} (h : EInv l p ds last pi pd qi qd) {m : M} (hp : l[p]? = some m) (hm : m.1 = 1 ∨ m.1 = -1) (hl : last ≠ []) :
    ∃ A B C ds', ds = A.length :: ds' ∧ l = A ++ (0, last) :: (B ++ m :: C) ∧ p = A.length + 1 + B.length ∧ Edits B ∧
      (3 ≤ pd.toNat + pi.toNat + (qd || decide (m.1 = -1)).toNat + (qi || decide (m.1 = 1)).toNat → cf false false (A ++ (-1, last) :: (1, last) :: (B ++ m :: C)) ≤ cf false false l) ∧
      EInv (A ++ (-1, last) :: (1, last) :: (B ++ m :: C)) (p + 1) [] [] true true true true ∧
      EInv (A ++ (-1, last) :: (1, last) :: (B ++ m :: C)) 0 [] [] pi pd false false ∧
      (∀ d1 d2 ds2, ds' = d1 :: d2 :: ds2 → EInv (A ++ (-1, last) :: (1, last) :: (B ++ m :: C)) (d2 + 1) (d2 :: ds2) [] pi pd false false) ∧ (∀ d ∈ ds', d < A.length) := by
  obtain ⟨A, B, C0, ds', e1, e2, e3, e4, e5, e6⟩ := h.pre hl
  have e7 : C0[0]? = some m := by
    rw [e2, e3, List.getElem?_append_right (by omega), show A.length + 1 + B.length - A.length = B.length + 1 by omega, List.getElem?_cons_succ, List.getElem?_append_right (Nat.le_refl _), Nat.sub_self] at hp
    exact hp
  match C0, e7 with
  | c :: C, e7 =>
    cases e7
    have hdesc := h.desc
    rw [e1, List.pairwise_cons] at hdesc
    refine ⟨A, B, C, ds', e1, e2, e3, e4, fun hn => ?_, ?_, ⟨Nat.zero_le _, by simp, List.Pairwise.nil, fun h => (by cases h), fun h => (by cases h), fun h => absurd rfl h⟩, fun d1 d2 ds2 hd => ?_, hdesc.1⟩
    · rw [e2]
      have := cf_split A (B ++ [m]) C last (e4.snoc hm) pd pi (qd || decide (m.1 = -1)) (qi || decide (m.1 = 1)) e5 e6 ?_ ?_ hn
      · simpa using this
      · intro hq
        rw [tfl_app]
        simp only [tfl, if_neg (edit_ne hm)]
        rw [Bool.or_eq_true] at hq ⊢
        refine hq.imp (fun hq => ?_) id
        have := h.qd' hq
        rw [e2, e3, show A ++ (0, last) :: (B ++ m :: C) = (A ++ (0, last) :: B) ++ m :: C by simp, List.take_left' (by simp; omega), tfl_app] at this
        simpa [tfl] using this
      · intro hq
        rw [tfl_app]
        simp only [tfl, if_neg (edit_ne hm)]
        rw [Bool.or_eq_true] at hq ⊢
        refine hq.imp (fun hq => ?_) id
        have := h.qi' hq
        rw [e2, e3, show A ++ (0, last) :: (B ++ m :: C) = (A ++ (0, last) :: B) ++ m :: C by simp, List.take_left' (by simp; omega), tfl_app] at this
        simpa [tfl] using this
    · have ht : (A ++ (-1, last) :: (1, last) :: (B ++ m :: C)).take (p + 1) = A ++ (-1, last) :: (1, last) :: B := by
        rw [show A ++ (-1, last) :: (1, last) :: (B ++ m :: C) = (A ++ (-1, last) :: (1, last) :: B) ++ m :: C by simp, List.take_left' (by simp; omega)]
      refine ⟨by simp; omega, by simp, List.Pairwise.nil, fun _ => ?_, fun _ => ?_, fun h => absurd rfl h⟩
      · rw [ht, tfl_app]
        simp only [tfl, show ¬ ((-1 : Int) = 0) by omega, show ¬ ((1 : Int) = 0) by omega, if_false, decide_true, Bool.or_true, Bool.true_or]
        exact tfl_true e4
      · rw [ht, tfl_app]
        simp only [tfl, show ¬ ((-1 : Int) = 0) by omega, show ¬ ((1 : Int) = 0) by omega, if_false, decide_true, Bool.or_true, Bool.true_or]
        exact tfl_true e4
    · subst hd
      have hd1 := hdesc.1 d2 (by simp)
      have hd2 := (List.pairwise_cons.1 hdesc.2).2
      refine ⟨by simp; omega, fun d hd => ?_, hd2, fun h => (by cases h), fun h => (by cases h), fun h => absurd rfl h⟩
      rcases List.mem_cons.1 hd with rfl | hd
      · exact Nat.lt_succ_self _
      · exact Nat.lt_succ_of_lt ((List.pairwise_cons.1 hd2).1 d hd)
def eqs : List M → Nat
  | [] => 0
  | m :: l => (if m.1 = 0 then 1 else 0) + eqs l
theorem eqs_app : ∀ a b : List M, eqs (a ++ b) = eqs a + eqs b
  | [], b => by simp [eqs]
  | m :: a, b => by simp only [List.cons_append, eqs, eqs_app a b]; omega
theorem split_keeps (A D : List M) (x : List Int) : (∀ z, z = 1 ∨ z = -1 → side z (A ++ (-1, x) :: (1, x) :: D) = side z (A ++ (0, x) :: D)) ∧ eqs (A ++ (-1, x) :: (1, x) :: D) + 1 = eqs (A ++ (0, x) :: D) ∧ wt (A ++ (-1, x) :: (1, x) :: D) = wt (A ++ (0, x) :: D) + x.length + 1 ∧ (Okm (A ++ (0, x) :: D) → Okm (A ++ (-1, x) :: (1, x) :: D)) ∧ (Typed (A ++ (0, x) :: D) → Typed (A ++ (-1, x) :: (1, x) :: D)) := by
  refine ⟨fun z hz => ?_, ?_, ?_, fun h m hm => ?_, fun h m hm => ?_⟩
  · rw [side_app, side_app]
    rcases hz with rfl | rfl <;> simp [side]
  · rw [eqs_app, eqs_app]; simp [eqs]; omega
  · rw [wt_app, wt_app]; simp [wt]; omega
  · simp only [List.mem_append, List.mem_cons] at hm
    rcases hm with hm | rfl | rfl | hm
    · exact h m (by simp [hm])
    · exact h (0, x) (by simp)
    · exact h (0, x) (by simp)
    · exact h m (by simp [hm])
  · simp only [List.mem_append, List.mem_cons] at hm
    rcases hm with hm | rfl | rfl | hm
    · exact h m (by simp [hm])
    · simp
    · simp
    · exact h m (by simp [hm])
end Go.Proofs.YtblmeoigjbnmiaaDoor.E
