import Derived.Test.YtfglahmbnnkijaaSD
/- The text behind edits, and what is asked of edits. -/
set_option linter.unusedVariables false
set_option linter.unusedSimpArgs false
namespace Go.Proofs.Ytfglahmbnnkijaa.E
open Go.Ev Go.Lcs
theorem ba_assoc (a b c : ByteArray) : a ++ b ++ c = a ++ (b ++ c) := by
  apply B_inj
  rw [B_append, B_append, B_append, B_append, List.append_assoc]
theorem ba_nil_app (a : ByteArray) : (⟨#[]⟩ : ByteArray) ++ a = a := by
  apply B_inj
  rw [B_append]
  rfl
theorem ex_nil (s : ByteArray) (i j : Nat) (h : j ≤ i) : s.extract i j = ⟨#[]⟩ := by
  apply size0
  rw [← B_size, B_extract, List.length_take]
  omega
theorem ErrIs.push {h : Hp} {i : If} {s : ByteArray} (he : ErrIs h i s) (o : Ev.Obj) : ErrIs (h.push o) i s := by
  obtain ⟨n, h0, h1, h2⟩ := he
  exact ⟨n, Nat.lt_succ_of_lt h0, h1, by rw [push_ob, if_neg (by omega)]; exact h2⟩
/-! ### as specified -/
def inB (n : Int) (L : List Ed) : Bool := L.all fun e => decide (0 ≤ e.1 ∧ e.1 ≤ e.2.1 ∧ e.2.1 ≤ n)
def apartB : List Ed → Bool
  | [] => true
  | [_] => true
  | a :: b :: L => decide (a.2.1 ≤ b.1) && apartB (b :: L)
theorem EditsIn_ok (K : Nat) (h : Hp) (r : Rf) (L : List Ed) (n : Int) (hs : SlL h 41 TS1 r L) (hl : L.length ≤ 1000) (hK : 4000 ≤ K) : EditsIn K h r n = some (h, inB n L) := by
  obtain ⟨K, rfl⟩ : ∃ m, K = m + 1 := ⟨K - 1, by omega⟩
  rw [EditsIn_eq, hs.rlen]
  unfold inB
  have key : ∀ (R P : List Ed) (k : Nat), P ++ R = L → 3 * R.length + 1 ≤ k → EditsIn_l0 K k n r (L.length : Int) (P.length : Int) h = some (h, R.all fun e => decide (0 ≤ e.1 ∧ e.1 ≤ e.2.1 ∧ e.2.1 ≤ n)) := by
    intro R
    induction R with
    | nil =>
      intro P k hP hk
      obtain ⟨k, rfl⟩ : ∃ m, k = m + 1 := ⟨k - 1, by omega⟩
      rw [List.append_nil] at hP
      rw [EditsIn_l0_eq, br_ge (by rw [hP]; omega)]
      rfl
    | cons e R ih =>
      intro P k hP hk
      simp only [List.length_cons] at hk
      have hll : L.length = P.length + (R.length + 1) := by rw [← hP]; simp
      obtain ⟨k, rfl⟩ : ∃ m, k = m + 3 := ⟨k - 3, by omega⟩
      have hL : L[P.length]'(by omega) = e := by
        have : L[P.length]? = some e := by rw [← hP]; simp
        exact (List.getElem?_eq_some_iff.1 this).2
      have := ih (P ++ [e]) k (by rw [List.append_assoc]; exact hP) (by omega)
      rw [List.length_append] at this
      have this : EditsIn_l0 K k n r (L.length : Int) ((P.length : Int) + 1) h = _ := this
      rw [EditsIn_l0_eq, br_lt (by omega), EditsIn_j0_eq, hs.rlen, chk_le (by omega), chk_lt (by omega), SlL.ld3 hs P.length (by omega), obs, hL, List.all_cons]
      have t : EditsIn_j1 K (k + 1) n r (L.length : Int) (P.length : Int) true h = some (h, false) := by rw [EditsIn_j1_eq, br_true]
      have f : EditsIn_j1 K (k + 1) n r (L.length : Int) (P.length : Int) false h = some (h, R.all fun e => decide (0 ≤ e.1 ∧ e.1 ≤ e.2.1 ∧ e.2.1 ≤ n)) := by rw [EditsIn_j1_eq, br_false, wrap_id (by omega) (by omega)]; exact this
      obtain ⟨a, b, s⟩ := e
      show br (ltI a 0) (EditsIn_j1 K (k + 1) n r (L.length : Int) (P.length : Int) true h) (br (ltI b a) (EditsIn_j1 K (k + 1) n r (L.length : Int) (P.length : Int) true h) (EditsIn_j1 K (k + 1) n r (L.length : Int) (P.length : Int) (ltI n b) h)) = some (h, decide (0 ≤ a ∧ a ≤ b ∧ b ≤ n) && _)
      rw [t]
      by_cases c1 : a < 0
      · rw [br_lt c1, decide_eq_false (by omega), Bool.false_and]
      rw [br_ge (by omega)]
      by_cases c2 : b < a
      · rw [br_lt c2, decide_eq_false (by omega), Bool.false_and]
      rw [br_ge (by omega), ltI_eq]
      by_cases c3 : n < b
      · rw [decide_eq_true c3, t, decide_eq_false (by omega), Bool.false_and]
      · rw [decide_eq_false c3, f, decide_eq_true (by omega), Bool.true_and]
  exact key L [] K rfl (by omega)
theorem SlL.f0 {h : Hp} {e : TypeId} {r : Rf} {L : List Ed} (hs : SlL h e TS1 r L) (i : Nat) (hi : i < L.length) : Hp.ld h (.p (.int .i64)) (padd 0 (radr 3 (Int.toNat (i : Int)) r)) = some L[i].1 ∧ (!pnil (radr 3 (Int.toNat (i : Int)) r)) = true := by
  rcases hs with ⟨rfl, rfl⟩ | ⟨_, n, _, rfl, ho⟩
  · simp at hi
  · rw [radr0]
    exact ⟨HO.f0 ho i hi, rfl⟩
theorem SlL.f1 {h : Hp} {e : TypeId} {r : Rf} {L : List Ed} (hs : SlL h e TS1 r L) (i : Nat) (hi : i < L.length) : Hp.ld h (.p (.int .i64)) (padd 1 (radr 3 (Int.toNat (i : Int)) r)) = some L[i].2.1 ∧ (!pnil (radr 3 (Int.toNat (i : Int)) r)) = true := by
  rcases hs with ⟨rfl, rfl⟩ | ⟨_, n, _, rfl, ho⟩
  · simp at hi
  · rw [radr0]
    exact ⟨HO.f1 ho i hi, rfl⟩
theorem chk_true {R : Type} (a : Option R) : chk true a = a := rfl
theorem EditsApart_ok (K : Nat) (h : Hp) (r : Rf) (L : List Ed) (hs : SlL h 41 TS1 r L) (hl : L.length ≤ 1000) (hK : 4000 ≤ K) : EditsApart K h r = some (h, apartB L) := by
  obtain ⟨K, rfl⟩ : ∃ m, K = m + 1 := ⟨K - 1, by omega⟩
  rw [EditsApart_eq]
  have key : ∀ (R P : List Ed) (a : Ed) (k : Nat), P ++ a :: R = L → 2 * R.length + 1 ≤ k → EditsApart_l0 K k r ((P.length : Int) + 1) h = some (h, apartB (a :: R)) := by
    intro R
    induction R with
    | nil =>
      intro P a k hP hk
      obtain ⟨k, rfl⟩ : ∃ m, k = m + 1 := ⟨k - 1, by omega⟩
      have hll : L.length = P.length + 1 := by rw [← hP]; simp
      rw [EditsApart_l0_eq, hs.rlen, br_ge (by omega)]
      rfl
    | cons b R ih =>
      intro P a k hP hk
      simp only [List.length_cons] at hk
      have hll : L.length = P.length + (R.length + 2) := by rw [← hP]; simp
      obtain ⟨k, rfl⟩ : ∃ m, k = m + 2 := ⟨k - 2, by omega⟩
      have g1 : L[P.length]'(by omega) = a := by
        have : L[P.length]? = some a := by rw [← hP]; simp
        exact (List.getElem?_eq_some_iff.1 this).2
      have g2 : L[P.length + 1]'(by omega) = b := by
        have : L[P.length + 1]? = some b := by rw [← hP]; simp [List.getElem?_append_right]
        exact (List.getElem?_eq_some_iff.1 this).2
      have a1 := SlL.f0 hs (P.length + 1) (by omega)
      have a2 := SlL.f1 hs P.length (by omega)
      rw [g2] at a1
      rw [g1] at a2
      have w : IntKind.wrap IntKind.i64 ((P.length : Int) + 1 - 1) = (P.length : Int) := by rw [wrap_id (by omega) (by omega)]; omega
      rw [show (P.length : Int) + 1 = ((P.length + 1 : Nat) : Int) by omega] at w ⊢
      rw [EditsApart_l0_eq, hs.rlen, br_lt (by omega), EditsApart_j0_eq, hs.rlen, w, chk_le (by omega), chk_lt (by omega), a1.2, chk_true, a1.1, obs, chk_le (by omega), chk_lt (by omega), a2.2, chk_true, a2.1, obs]
      have := ih (P ++ [a]) b k (by rw [List.append_assoc]; exact hP) (by omega)
      rw [List.length_append] at this
      by_cases c : b.1 < a.2.1
      · rw [br_lt c]
        show _ = some (h, decide (a.2.1 ≤ b.1) && _)
        rw [decide_eq_false (by omega)]
        rfl
      · rw [br_ge (by omega), wrap_id (by omega) (by omega)]
        show _ = some (h, decide (a.2.1 ≤ b.1) && _)
        rw [decide_eq_true (by omega), Bool.true_and]
        exact this
  cases hL : L with
  | nil =>
    obtain ⟨K, rfl⟩ : ∃ m, K = m + 1 := ⟨K - 1, by omega⟩
    rw [EditsApart_l0_eq, hs.rlen, hL, br_ge (by show ((0 : Nat) : Int) ≤ 1; omega)]
    rfl
  | cons a R =>
    have := key R [] a K hL.symm (by rw [hL] at hl; simp only [List.length_cons] at hl; omega)
    rw [← hL]
    rw [hL]
    exact this
theorem EditsApplied_ok (K : Nat) (src : ByteArray) (h : Hp) (r : Rf) (S : List Ed) (hs : SlL h 41 TS1 r S) (hb : ∀ e ∈ S, e.2.2.size ≤ 100000) (hsrc : src.size ≤ 100000) (hl : S.length ≤ 1000) (hv : vchk src.size 0 S = 0) (hK : 4000 ≤ K) : EditsApplied K h src r = some (h, apB src ⟨#[]⟩ 0 S) := by
  obtain ⟨K, rfl⟩ : ∃ m, K = m + 1 := ⟨K - 1, by omega⟩
  rw [EditsApplied_eq, hs.rlen]
  have key : ∀ (R P : List Ed) (last : Int) (X : ByteArray) (k : Nat), P ++ R = S → 2 * R.length + 2 ≤ k → 0 ≤ last → last ≤ src.size → X.size ≤ 1000000 * P.length → vchk src.size last R = 0 →
      EditsApplied_l0 K k src X last r (S.length : Int) (P.length : Int) h = some (h, apB src X last R) := by
    intro R
    induction R with
    | nil =>
      intro P last X k hP hk h0 h1 hX hv
      obtain ⟨k, rfl⟩ : ∃ m, k = m + 2 := ⟨k - 2, by omega⟩
      rw [List.append_nil] at hP
      subst hP
      rw [EditsApplied_l0_eq, br_ge (by omega), EditsApplied_j1_eq, Int.toNat_natCast, ex_size src _ _ (by omega) (Nat.le_refl _), chk_le (by omega), chk_le (by omega), chk_le (by omega), chk_nle (by omega)]
      rfl
    | cons e R ih =>
      intro P last X k hP hk h0 h1 hX hv
      simp only [List.length_cons] at hk
      obtain ⟨k, rfl⟩ : ∃ m, k = m + 2 := ⟨k - 2, by omega⟩
      have hll : S.length = P.length + (R.length + 1) := by rw [← hP]; simp
      have hL : S[P.length]'(by omega) = e := by
        have : S[P.length]? = some e := by rw [← hP]; simp
        exact (List.getElem?_eq_some_iff.1 this).2
      have he := hb e (by rw [← hP]; simp)
      unfold vchk at hv
      by_cases c1 : 0 ≤ e.1 ∧ e.1 ≤ e.2.1 ∧ e.2.1 ≤ src.size
      · rw [if_pos c1] at hv
        by_cases c2 : e.1 < last
        · rw [if_pos c2] at hv
          cases hv
        · rw [if_neg c2] at hv
          have hsz0 : (ByteArray.append (src.extract last.toNat e.1.toNat) e.2.2).size ≤ 200000 := by
            have := ba_size_app (src.extract last.toNat e.1.toNat) e.2.2
            rw [ex_size src _ _ (by omega) (by omega)] at this
            have e0 : (ByteArray.append (src.extract last.toNat e.1.toNat) e.2.2).size = _ := this
            omega
          have hsz : (X ++ (src.extract last.toNat e.1.toNat ++ e.2.2)).size ≤ 1000000 * (P ++ [e]).length := by
            rw [ba_size_app, ba_size_app, ex_size src _ _ (by omega) (by omega), List.length_append]
            simp only [List.length_cons, List.length_nil]
            omega
          have nxt := ih (P ++ [e]) e.2.1 _ k (by rw [List.append_assoc]; exact hP) (by omega) (by omega) (by omega) hsz hv
          rw [List.length_append] at nxt
          rw [EditsApplied_l0_eq, br_lt (by omega), EditsApplied_j0_eq, hs.rlen, chk_le (by omega), chk_lt (by omega), SlL.ld3 hs P.length (by omega), obs, hL, chk_le (by omega), chk_le (by omega), chk_le (by omega), chk_nle (by rw [ex_size src _ _ (by omega) (by omega)]; omega), chk_nle (by omega), wrap_id (by omega) (by omega)]
          exact nxt
      · rw [if_neg c1] at hv
        cases hv
  exact key S [] 0 ⟨#[]⟩ K rfl (by omega) (Int.le_refl 0) (by omega) (Nat.zero_le _) hv
theorem vchk_in : ∀ (n : Int) (L : List Ed) (last : Int), (vchk n last L = 0 → inB n L = true) ∧ (vchk n last L = 1 → inB n L = false)
  | n, [], last => ⟨fun _ => rfl, fun h => by cases h⟩
  | n, e :: L, last => by
    have ih := vchk_in n L e.2.1
    unfold vchk
    have hI : inB n (e :: L) = (decide (0 ≤ e.1 ∧ e.1 ≤ e.2.1 ∧ e.2.1 ≤ n) && inB n L) := by unfold inB; rw [List.all_cons]
    rw [hI]
    by_cases c : 0 ≤ e.1 ∧ e.1 ≤ e.2.1 ∧ e.2.1 ≤ n
    · rw [if_pos c, decide_eq_true c, Bool.true_and]
      by_cases c2 : e.1 < last
      · rw [if_pos c2]
        exact ⟨fun h => (by cases h), fun h => (by cases h)⟩
      · rw [if_neg c2]
        exact ih
    · rw [if_neg c, decide_eq_false c, Bool.false_and]
      exact ⟨fun h => (by cases h), fun _ => rfl⟩
theorem vchk_apart : ∀ (n : Int) (L : List Ed) (p : Ed), (vchk n p.2.1 L = 0 → apartB (p :: L) = true) ∧ (vchk n p.2.1 L = 2 → apartB (p :: L) = false)
  | n, [], p => ⟨fun _ => rfl, fun h => by cases h⟩
  | n, e :: L, p => by
    have ih := vchk_apart n L e
    unfold vchk
    show (_ → (decide (p.2.1 ≤ e.1) && apartB (e :: L)) = true) ∧ (_ → (decide (p.2.1 ≤ e.1) && apartB (e :: L)) = false)
    by_cases c : 0 ≤ e.1 ∧ e.1 ≤ e.2.1 ∧ e.2.1 ≤ n
    · rw [if_pos c]
      by_cases c2 : e.1 < p.2.1
      · rw [if_pos c2, decide_eq_false (by omega), Bool.false_and]
        exact ⟨fun h => (by cases h), fun _ => rfl⟩
      · rw [if_neg c2, decide_eq_true (by omega), Bool.true_and]
        exact ih
    · rw [if_neg c]
      exact ⟨fun h => (by cases h), fun h => (by cases h)⟩
theorem vchk_apart0 (n : Int) (L : List Ed) : (vchk n 0 L = 0 → apartB L = true) ∧ (vchk n 0 L = 2 → apartB L = false) := by
  cases L with
  | nil => exact ⟨fun _ => rfl, fun h => by cases h⟩
  | cons e L =>
    unfold vchk
    by_cases c : 0 ≤ e.1 ∧ e.1 ≤ e.2.1 ∧ e.2.1 ≤ n
    · rw [if_pos c, if_neg (by omega)]
      exact vchk_apart n L e
    · rw [if_neg c]
      exact ⟨fun h => (by cases h), fun h => (by cases h)⟩
end Go.Proofs.Ytfglahmbnnkijaa.E
