import Derived.Test.YtfglahmbnnkijaaLI
/- Diagonals sorted, cut so that they do not overlap, and turned into differences. -/
set_option linter.unusedVariables false
set_option linter.unusedSimpArgs false
namespace Go.Proofs.Ytfglahmbnnkijaa.E
open Go.Ev Go.Lcs
def sLt (a b : Dg) : Bool := if a.1 = b.1 then decide (b.2.2 < a.2.2) else decide (a.1 < b.1)
def fLt (a b : Dg) : Bool := decide (b.2.2 < a.2.2)
theorem sLt_asym (a b : Dg) (h : sLt a b = true) : sLt b a = false := by
  unfold sLt at *
  split at h <;> split <;> simp only [decide_eq_true_eq, decide_eq_false_iff_not] at * <;> omega
theorem sLt_tr (a b c : Dg) (h : sLt a b = false) (g : sLt b c = false) : sLt a c = false := by
  unfold sLt at *
  split at h <;> split at g <;> split <;> simp only [decide_eq_false_iff_not] at * <;> omega
theorem sort_1_ok (K : Nat) (a b : Dg) (hK : 2 ≤ K) : sort_1 K a b = some (sLt a b) := by
  obtain ⟨K, rfl⟩ : ∃ q, K = q + 2 := ⟨K - 2, by omega⟩
  rw [sort_1_eq, br_not]
  unfold sLt
  by_cases c : (a.1 : Int) = b.1
  · rw [br_eq c, if_pos c, sort_1_j0_eq, ltI_eq]
    rfl
  · rw [br_ne c, if_neg c, ltI_eq]
theorem fix_1_ok (K : Nat) (a b : Dg) (hK : 1 ≤ K) : fix_1 K a b = some (fLt a b) := by
  obtain ⟨K, rfl⟩ : ∃ m, K = m + 1 := ⟨K - 1, by omega⟩
  rw [fix_1_eq, ltI_eq]
  rfl
/-- The two orders that are used. -/
def Ord (f : Nat) (less : Dg → Dg → Bool) : Prop := (f = 103 ∧ less = fLt) ∨ (f = 106 ∧ less = sLt)
theorem zs_step (K k : Nat) (f : Nat) (less : Dg → Dg → Bool) (hf : Ord f less) {h : Hp} {n : Nat} {L : List Dg} (ho : HO h 154 TS2 n L) (i : Int) (hi0 : 0 ≤ i) (hi1 : i ≤ 1000000) (j : Nat) (hj : j + 1 < L.length) (hl : L.length ≤ 1000000) (hK : 2 ≤ K) :
    zzSort_l1 K (k + 1) (.at n 0 L.length) f [] i ((j + 1 : Nat) : Int) h = br (less L[j + 1] L[j]) (zzSort_j1 K k (.at n 0 L.length) f [] i ((j + 1 : Nat) : Int) h) (zzSort_l0 K k (.at n 0 L.length) f [] (i + 1) h) := by
  have l1 : Hp.ld h (.p TS2) (.at n ((j + 1) * 3)) = some L[j + 1] := ho.ld (j + 1) hj
  have l2 : Hp.ld h (.p TS2) (.at n (j * 3)) = some L[j] := ho.ld j (by omega)
  have hw : IntKind.wrap IntKind.i64 (((j + 1 : Nat) : Int) - 1) = (j : Int) := by rw [wrap_id (by omega) (by omega)]; omega
  rw [zzSort_l1_eq, br_lt (by omega), hw, radr0, radr0, rlen0, chk_le (by omega), chk_lt (by omega), l1, obs, chk_le (by omega), chk_lt (by omega), l2, obs, wrap_id (by omega) (by omega)]
  rcases hf with ⟨rfl, rfl⟩ | ⟨rfl, rfl⟩
  · rw [show Nat.beq 103 103 = true from rfl, br_true, show nilC [] = true from rfl, chk_t, fix_1_ok K _ _ (by omega), obs]
  · rw [show Nat.beq 106 103 = false from rfl, br_false, show Nat.beq 106 106 = true from rfl, br_true, show nilC [] = true from rfl, chk_t, sort_1_ok K _ _ (by omega), obs]
theorem zs_swap (K k : Nat) (f : Nat) {h : Hp} {n : Nat} {L : List Dg} (ho : HO h 154 TS2 n L) (i : Int) (j : Nat) (hj : j + 1 < L.length) (hl : L.length ≤ 1000000) :
    ∃ h', zzSort_j1 K (k + 1) (.at n 0 L.length) f [] i ((j + 1 : Nat) : Int) h = zzSort_l1 K k (.at n 0 L.length) f [] i (j : Int) h' ∧ HO h' 154 TS2 n ((L.set (j + 1) L[j]).set j L[j + 1]) ∧ Only n h h' := by
  have l1 : Hp.ld h (.p TS2) (.at n ((j + 1) * 3)) = some L[j + 1] := ho.ld (j + 1) hj
  have l2 : Hp.ld h (.p TS2) (.at n (j * 3)) = some L[j] := ho.ld j (by omega)
  have hw : IntKind.wrap IntKind.i64 (((j + 1 : Nat) : Int) - 1) = (j : Int) := by rw [wrap_id (by omega) (by omega)]; omega
  obtain ⟨h1, e1, o1, u1⟩ := ho.wr (j + 1) hj L[j]
  obtain ⟨h2, e2, o2, u2⟩ := o1.wr j (by rw [List.length_set]; omega) L[j + 1]
  have e1 : Hp.st h (.p TS2) (.at n ((j + 1) * 3)) L[j] = some h1 := e1
  have e2 : Hp.st h1 (.p TS2) (.at n (j * 3)) L[j + 1] = some h2 := e2
  refine ⟨h2, ?_, o2, u1.trans u2⟩
  rw [zzSort_j1_eq, hw, radr0, radr0, rlen0, chk_le (by omega), chk_lt (by omega), l2, obs, chk_le (by omega), chk_lt (by omega), l1, obs, chk_le (by omega), chk_lt (by omega), e1, obs, chk_le (by omega), chk_lt (by omega), e2, obs]
theorem zs_l1 (K : Nat) (f : Nat) (less : Dg → Dg → Bool) (hf : Ord f less) (n : Nat) (hK : 2 ≤ K) (m : Nat) (i : Int) (hi0 : 0 ≤ i) (hi1 : i ≤ 1000000) : ∀ (q p : List Dg) (e : Dg) (R : List Dg) (h : Hp) (k : Nat), HO h 154 TS2 n (q.reverse ++ e :: (p.reverse ++ R)) → (q.reverse ++ e :: (p.reverse ++ R)).length ≤ 100000 → 2 * q.length + 2 + m ≤ k →
    ∃ k' h', m ≤ k' ∧ zzSort_l1 K k (.at n 0 (q.reverse ++ e :: (p.reverse ++ R)).length) f [] i (q.length : Int) h = zzSort_l0 K k' (.at n 0 (q.reverse ++ e :: (p.reverse ++ R)).length) f [] (i + 1) h' ∧ HO h' 154 TS2 n ((p ++ insV less e q).reverse ++ R) ∧ Only n h h'
  | [], p, e, R, h, k, ho, hl, hk => by
    obtain ⟨k, rfl⟩ : ∃ m, k = m + 1 := ⟨k - 1, by omega⟩
    refine ⟨k, h, by simp only [List.length_nil] at hk; omega, ?_, ?_, Only.refl n h⟩
    · rw [zzSort_l1_eq, br_ge (by simp), wrap_id (by omega) (by omega)]
    · have : (p ++ insV less e []).reverse ++ R = [].reverse ++ e :: (p.reverse ++ R) := by simp [insV]
      rw [this]
      exact ho
  | x :: q, p, e, R, h, k, ho, hl, hk => by
    simp only [List.length_cons] at hk
    obtain ⟨k, rfl⟩ : ∃ m, k = m + 1 := ⟨k - 1, by omega⟩
    obtain ⟨k, rfl⟩ : ∃ m, k = m + 1 := ⟨k - 1, by omega⟩
    have hL : (x :: q).reverse ++ e :: (p.reverse ++ R) = q.reverse ++ x :: e :: (p.reverse ++ R) := by simp
    rw [hL] at ho hl ⊢
    have hlen : (q.reverse ++ x :: e :: (p.reverse ++ R)).length = q.length + 2 + (p.length + R.length) := by simp; omega
    have ge : (q.reverse ++ x :: e :: (p.reverse ++ R))[q.length + 1]'(by omega) = e := by
      have : q.length + 1 = q.reverse.length + 1 := by simp
      simp only [this]
      simp [List.getElem_append_right]
    have gx : (q.reverse ++ x :: e :: (p.reverse ++ R))[q.length]'(by omega) = x := by
      have : q.length = q.reverse.length := by simp
      simp only [this]
      simp
    have hst := zs_step K (k + 1) f less hf ho i hi0 hi1 q.length (by omega) (by omega) hK
    rw [ge, gx] at hst
    rw [show ((x :: q).length : Int) = ((q.length + 1 : Nat) : Int) by simp, hst]
    by_cases hc : less e x = true
    · rw [hc, br_true]
      obtain ⟨h1, e1, o1, u1⟩ := zs_swap K k f ho i q.length (by omega) (by omega)
      rw [e1]
      rw [swap_mid q.reverse x e (p.reverse ++ R) (q.length + 1) q.length (by simp) (by simp)] at o1
      have hp : q.reverse ++ e :: x :: (p.reverse ++ R) = q.reverse ++ e :: ((p ++ [x]).reverse ++ R) := by simp
      have hp' : (q.reverse ++ x :: e :: (p.reverse ++ R)).length = (q.reverse ++ e :: ((p ++ [x]).reverse ++ R)).length := by simp
      rw [hp] at o1
      obtain ⟨k', h', g1, g2, g3, g4⟩ := zs_l1 K f less hf n hK m i hi0 hi1 q (p ++ [x]) e R h1 k o1 (by omega) (by omega)
      rw [hp']
      refine ⟨k', h', g1, g2, ?_, u1.trans g4⟩
      rw [insV_cons, if_pos hc]
      have : p ++ x :: insV less e q = p ++ [x] ++ insV less e q := by simp
      rw [this]
      exact g3
    · have hc' : less e x = false := by cases hb : less e x with | true => exact absurd hb hc | false => rfl
      rw [hc', br_false]
      refine ⟨k + 1, h, by omega, rfl, ?_, Only.refl n h⟩
      rw [insV_cons, if_neg hc]
      have : (p ++ e :: x :: q).reverse ++ R = q.reverse ++ x :: e :: (p.reverse ++ R) := by simp
      rw [this]
      exact ho
theorem zzSort_ok (K : Nat) (f : Nat) (less : Dg → Dg → Bool) (hf : Ord f less) {hs h : Hp} {r : Rf} {L : List Dg} (hb : Blt hs h 154 TS2 r L) (hl : L.length ≤ 2000) (hK : 10000000 ≤ K) : ∃ h', zzSort K h r (f, []) = some h' ∧ Blt hs h' 154 TS2 r (isV less L).reverse := by
  obtain ⟨K, rfl⟩ : ∃ m, K = m + 1 := ⟨K - 1, by omega⟩
  rw [zzSort_eq]
  show ∃ h', zzSort_l0 K K r f [] (1 : Int) h = _ ∧ _
  obtain ⟨hk, hfr, hL⟩ := hb
  rcases hL with ⟨rfl, rfl⟩ | ⟨hne, n, hn0, hn, rfl, ho⟩
  · obtain ⟨k, hk'⟩ : ∃ q, K = q + 1 := ⟨K - 1, by omega⟩
    refine ⟨h, ?_, hk, hfr, .inl ⟨rfl, rfl⟩⟩
    have j0 : zzSort_l0 K K .nil f [] (1 : Int) h = zzSort_l0 K (k + 1) .nil f [] (1 : Int) h := by rw [← hk']
    rw [j0, zzSort_l0_eq, br_ge (by show ((0 : Nat) : Int) ≤ 1; omega)]
  · have key : ∀ (R P : List Dg) (h : Hp) (k : Nat), P ++ R = L → 1 ≤ P.length → HO h 154 TS2 n ((isV less P).reverse ++ R) → 4003 * R.length + 1 ≤ k →
        ∃ h', zzSort_l0 K k (.at n 0 L.length) f [] (P.length : Int) h = some h' ∧ HO h' 154 TS2 n (isV less L).reverse ∧ Only n h h' := by
      intro R
      induction R with
      | nil =>
        intro P h k hP h1 ho' hk
        rw [List.append_nil] at hP ho'
        obtain ⟨k, rfl⟩ : ∃ m, k = m + 1 := ⟨k - 1, by omega⟩
        exact ⟨h, by rw [hP, zzSort_l0_eq, rlen0, br_ge (by omega)], hP ▸ ho', Only.refl n h⟩
      | cons e R ih =>
        intro P h k hP h1 ho' hk
        simp only [List.length_cons] at hk
        have hll : L.length = P.length + (R.length + 1) := by rw [← hP]; simp
        obtain ⟨k, rfl⟩ : ∃ m, k = m + 1 := ⟨k - 1, by omega⟩
        obtain ⟨k, rfl⟩ : ∃ m, k = m + 1 := ⟨k - 1, by omega⟩
        rw [zzSort_l0_eq, rlen0, br_lt (by omega), zzSort_j0_eq]
        have hlen : ((isV less P).reverse ++ e :: ([].reverse ++ R)).length = L.length := by
          rw [List.length_append, List.length_reverse, isV_length]
          simp
          omega
        obtain ⟨k', h', g1, g2, g3, g4⟩ := zs_l1 K f less hf n (by omega) (4003 * R.length + 1) (P.length : Int) (by omega) (by omega) (isV less P) [] e R h k ho' (by omega) (by rw [isV_length]; omega)
        rw [hlen, isV_length] at g2
        rw [g2]
        have e1 : ([] ++ insV less e (isV less P)) = isV less (P ++ [e]) := by rw [isV_snoc]; rfl
        rw [e1] at g3
        obtain ⟨h2, r1, r2, r3⟩ := ih (P ++ [e]) h' k' (by rw [List.append_assoc]; exact hP) (by simp) g3 g1
        rw [List.length_append] at r1
        exact ⟨h2, r1, r2, g4.trans r3⟩
    match L, hne with
    | e :: R, _ =>
      obtain ⟨h', a1, a2, a3⟩ := key R [e] h K rfl (by simp) ho (by simp only [List.length_cons] at hl; omega)
      refine ⟨h', a1, a3.keep hk hn0, a3.free hfr hn, .inr ⟨?_, n, hn0, by rw [a3.1]; exact hn, ?_, a2⟩⟩
      · intro hc
        have := congrArg List.length hc
        rw [List.length_reverse, isV_length] at this
        simp at this
      · rw [List.length_reverse, isV_length]
theorem sort_ok (K : Nat) {hs h : Hp} {r : Rf} {L C : List Dg} {E : Int → Int → Prop} {N M : Int} (hb : Blt hs h 154 TS2 r L) (hp : L.Perm C) (hc : Ch E C 0 0 N M) (hN : N ≤ 2000) (hK : 10000001 ≤ K) : ∃ h' R, sort K h r = some (h', r) ∧ Blt hs h' 154 TS2 r R ∧ Ch E R 0 0 N M ∧ dsum R = dsum C := by
  obtain ⟨K, rfl⟩ : ∃ m, K = m + 1 := ⟨K - 1, by omega⟩
  have hlen : (L.length : Int) ≤ N := by rw [hp.length_eq]; have := Ch.len hc; omega
  obtain ⟨h', e1, e2⟩ := zzSort_ok K 106 sLt (.inr ⟨rfl, rfl⟩) hb (by omega) (by omega)
  have hpp := (isV_perm sLt L).trans hp
  refine ⟨h', (isV sLt L).reverse, ?_, e2, ?_, dsum_perm hpp⟩
  · rw [sort_eq, e1, obs]
  · refine Ch.perm hc hpp ((isV_sorted sLt sLt_asym sLt_tr L).imp fun {a b} h => ?_)
    unfold sLt at h
    split at h <;> simp only [decide_eq_false_iff_not] at h <;> omega
/-! ### differences -/
theorem toDiffs_ok (K : Nat) {h : Hp} {r : Rf} {L : List Dg} {E : Int → Int → Prop} {N M : Int} (hs : SlL h 154 TS2 r L) (hc : Ch E L 0 0 N M) (hN : N ≤ 100000) (hM : M ≤ 100000) (hK : 1000000 ≤ K) : toDiffs K h r N M = some (h, tod L 0 0 N M) := by
  obtain ⟨K, rfl⟩ : ∃ m, K = m + 1 := ⟨K - 1, by omega⟩
  have hlen : (L.length : Int) ≤ N := by have := Ch.len hc; omega
  rw [toDiffs_eq, hs.rlen]
  have key : ∀ (R P : List Dg) (D : List Sp) (pa pb : Int) (k : Nat), P ++ R = L → Ch E R pa pb N M → 0 ≤ pa → 0 ≤ pb → D.length ≤ P.length → 4 * R.length + 4 ≤ k → toDiffs_l0 K k N M D pa pb r (L.length : Int) (P.length : Int) h = some (h, D ++ tod R pa pb N M) := by
    intro R
    induction R with
    | nil =>
      intro P D pa pb k hP hcR h1 h2 hD hk
      obtain ⟨k, rfl⟩ : ∃ q, k = q + 4 := ⟨k - 4, by omega⟩
      rw [List.append_nil] at hP
      have t : ∀ k, pa < N ∨ pb < M → toDiffs_j3 K (k + 1) N M D pa pb true h = some (h, D ++ tod [] pa pb N M) := by
        intro k hc
        rw [toDiffs_j3_eq, br_true, chk_lt (by simp only [List.length_cons, List.length_nil]; rw [hP] at hD; omega)]
        unfold tod
        rw [if_pos hc]
      rw [toDiffs_l0_eq, br_ge (by rw [hP]; omega), toDiffs_j1_eq]
      by_cases c1 : pa < N
      · rw [br_lt c1]
        exact t _ (.inl c1)
      · rw [br_ge (by omega), ltI_eq]
        by_cases c2 : pb < M
        · rw [decide_eq_true c2]
          exact t _ (.inr c2)
        · rw [decide_eq_false c2, toDiffs_j3_eq, br_false]
          unfold tod
          rw [if_neg (by omega), List.append_nil]
    | cons d R ih =>
      intro P D pa pb k hP hcR h1 h2 hD hk
      simp only [List.length_cons] at hk
      obtain ⟨k, rfl⟩ : ∃ q, k = q + 4 := ⟨k - 4, by omega⟩
      have hll : L.length = P.length + (R.length + 1) := by rw [← hP]; simp
      have hL : L[P.length]'(by omega) = d := by
        have : L[P.length]? = some d := by rw [← hP]; simp
        exact (List.getElem?_eq_some_iff.1 this).2
      have hld : Hp.ld h (.p TS2) (radr 3 (Int.toNat (P.length : Int)) r) = some d := by
        rw [Int.toNat_natCast, ← hL]
        exact hs.ld P.length (by omega)
      obtain ⟨a1, a2, a3, a4⟩ := hcR
      have a3l := a3.1
      have al := a4.le
      have hn : nth TS2 [d] (0 : Int) = d := nth_mid TS2 [] d []
      have nx : ∀ (D' : List Sp) (k : Nat), D'.length ≤ P.length + 1 → 4 * R.length + 4 ≤ k → toDiffs_j4 K (k + 1) N M D' (0 : Int) [d] r (L.length : Int) (P.length : Int) h = some (h, D' ++ tod R (d.1 + d.2.2) (d.2.1 + d.2.2) N M) := by
        intro D' k hD' hk
        rw [toDiffs_j4_eq, hn, wrap_id (x := d.1 + d.2.2) (by omega) (by omega), wrap_id (x := d.2.1 + d.2.2) (by omega) (by omega), wrap_id (by omega) (by omega)]
        have := ih (P ++ [d]) D' (d.1 + d.2.2) (d.2.1 + d.2.2) k (by rw [List.append_assoc]; exact hP) a4 (by omega) (by omega) (by rw [List.length_append]; exact hD') hk
        rw [List.length_append] at this
        exact this
      have t : ∀ k, 4 * R.length + 4 ≤ k → pa < d.1 ∨ pb < d.2.1 → toDiffs_j2 K (k + 2) N M D pa pb (0 : Int) [d] r (L.length : Int) (P.length : Int) true h = some (h, D ++ tod (d :: R) pa pb N M) := by
        intro k hk hc
        rw [toDiffs_j2_eq, br_true, hn, chk_lt (by simp only [List.length_cons, List.length_nil]; omega), nx _ k (by rw [List.length_append]; simp only [List.length_cons, List.length_nil]; omega) hk]
        conv => rhs; unfold tod
        rw [if_pos hc, List.append_assoc]
        rfl
      rw [toDiffs_l0_eq, br_lt (by omega), toDiffs_j0_eq, hs.rlen, chk_le (by omega), chk_lt (by omega), hld, obs]
      by_cases c1 : pa < d.1
      · rw [br_lt c1]
        exact t k (by omega) (.inl c1)
      · rw [br_ge (by omega), ltI_eq]
        by_cases c2 : pb < d.2.1
        · rw [decide_eq_true c2]
          exact t k (by omega) (.inr c2)
        · rw [decide_eq_false c2, toDiffs_j2_eq, br_false, nx D k (by omega) (by omega)]
          conv => rhs; unfold tod
          rw [if_neg (by omega)]
  exact key L [] [] 0 0 K rfl hc (Int.le_refl 0) (Int.le_refl 0) (Nat.le_refl _) (by omega)
/-! ### what overlaps is cut -/
theorem nth1 (d : Dg) : nth TS2 [d] (0 : Int) = d := nth_mid TS2 [] d []
theorem set1 (d d' : Dg) : List.set [d] (Int.toNat 0) d' = [d'] := rfl
/-- What is left of a diagonal beside another one. -/
def Ov (ex pr : Dg) (o : Option (Int × Dg)) : Prop := ∃ c p, o = some (c, p) ∧ ((c = 0 ∧ p.2.2 ≤ 0) ∨ ((c = 1 ∨ c = 2) ∧ Sub p pr ∧ 1 ≤ p.2.2 ∧ (Lt p ex ∨ Lt ex p)) ∨ c = 3)
def Ok1 (d : Dg) : Prop := 0 ≤ d.1 ∧ 0 ≤ d.2.1 ∧ 1 ≤ d.2.2 ∧ d.1 + d.2.2 ≤ 10000 ∧ d.2.1 + d.2.2 ≤ 10000
theorem Sub.front {p q : Dg} (s : Sub p q) {δ : Int} (h : 0 ≤ δ) : Sub (p.1 + δ, p.2.1 + δ, p.2.2 - δ) q := by
  obtain ⟨x, s1, s2, s3, s4⟩ := s
  exact ⟨x + δ, by omega, by show p.1 + δ = _; omega, by show p.2.1 + δ = _; omega, by show x + δ + (p.2.2 - δ) ≤ _; omega⟩
theorem Sub.rear {p q : Dg} (s : Sub p q) {δ : Int} (h : 0 ≤ δ) : Sub (p.1, p.2.1, p.2.2 - δ) q := by
  obtain ⟨x, s1, s2, s3, s4⟩ := s
  exact ⟨x, s1, s2, s3, by show x + (p.2.2 - δ) ≤ _; omega⟩
section
variable (K : Nat) (ex pr : Dg) (hex : Ok1 ex) (z : List Dg) (hz : z = [((0 : Int), ((0 : Int), (0 : Int)))])
include hex hz
theorem ov9 (k : Nat) (p : Dg) (hp : Ok1 p) (hs : Sub p pr) : Ov ex pr (overlap_j9 K (k + 4) (0 : Int) [ex] (0 : Int) [p] (0 : Int) z) := by
  subst hz
  have he := hex
  unfold Ok1 at he hp
  have l3 : Ov ex pr (overlap_j12 K (k + 1) (0 : Int) [p] (0 : Int) [((0 : Int), ((0 : Int), (0 : Int)))] false) := by
    rw [overlap_j12_eq, br_false]
    exact ⟨_, _, rfl, .inr (.inr rfl)⟩
  have l11 : Ov ex pr (overlap_j11 K (k + 2) (0 : Int) [ex] (0 : Int) [p] (0 : Int) [((0 : Int), ((0 : Int), (0 : Int)))]) := by
    rw [overlap_j11_eq, nth1, nth1, wrap_id (by omega) (by omega)]
    by_cases c1 : ex.1 + ex.2.2 ≤ p.1
    · rw [br_le c1, wrap_id (by omega) (by omega), leI_eq]
      by_cases c2 : ex.2.1 + ex.2.2 ≤ p.2.1
      · rw [decide_eq_true c2, overlap_j12_eq, br_true, nth1, set1, nth1]
        exact ⟨_, _, rfl, .inr (.inl ⟨.inr rfl, hs, hp.2.2.1, .inr ⟨c1, c2⟩⟩)⟩
      · rw [decide_eq_false c2]
        exact l3
    · rw [br_gt (by omega)]
      exact l3
  rw [overlap_j9_eq, nth1, nth1, wrap_id (by omega) (by omega)]
  have no : Ov ex pr (overlap_j10 K (k + 3) (0 : Int) [ex] (0 : Int) [p] (0 : Int) [((0 : Int), ((0 : Int), (0 : Int)))] false) := by
    rw [overlap_j10_eq, br_false]
    exact l11
  by_cases c1 : p.1 + p.2.2 ≤ ex.1
  · rw [br_le c1, wrap_id (by omega) (by omega), leI_eq]
    by_cases c2 : p.2.1 + p.2.2 ≤ ex.2.1
    · rw [decide_eq_true c2, overlap_j10_eq, br_true, nth1, set1, nth1]
      exact ⟨_, _, rfl, .inr (.inl ⟨.inl rfl, hs, hp.2.2.1, .inl ⟨c1, c2⟩⟩)⟩
    · rw [decide_eq_false c2]
      exact no
  · rw [br_gt (by omega)]
    exact no
theorem ov6 (k : Nat) (p : Dg) (hp : Ok1 p) (hs : Sub p pr) : Ov ex pr (overlap_j6 K (k + 8) (0 : Int) [ex] (0 : Int) [p] (0 : Int) z) := by
  have h9 := ov9 K ex pr hex z hz (k + 2) p hp hs
  have he := hex
  unfold Ok1 at he hp
  have no : Ov ex pr (overlap_j7 K (k + 7) (0 : Int) [ex] (0 : Int) [p] (0 : Int) z false) := by
    rw [overlap_j7_eq, br_false]
    exact h9
  rw [overlap_j6_eq, nth1 p, nth1 ex]
  by_cases c1 : ex.2.1 ≤ p.2.1
  · rw [br_le c1, wrap_id (by omega) (by omega), ltI_eq]
    by_cases c2 : p.2.1 < ex.2.1 + ex.2.2
    · rw [decide_eq_true c2, overlap_j7_eq, br_true, nth1 p, nth1 ex, set1, nth1]
      rw [wrap_id (x := ex.2.1 + ex.2.2) (by omega) (by omega), wrap_id (x := ex.2.1 + ex.2.2 - p.2.1) (by omega) (by omega), wrap_id (x := p.2.2 - (ex.2.1 + ex.2.2 - p.2.1)) (by omega) (by omega)]
      obtain ⟨δ, hδ⟩ : ∃ δ, δ = ex.2.1 + ex.2.2 - p.2.1 := ⟨_, rfl⟩
      rw [← hδ]
      obtain ⟨p1, hp1⟩ : ∃ p1 : Dg, p1 = (p.1, p.2.1, p.2.2 - δ) := ⟨_, rfl⟩
      have b1 : p1.1 = p.1 := by rw [hp1]
      have b2 : p1.2.1 = p.2.1 := by rw [hp1]
      have b3 : p1.2.2 = p.2.2 - δ := by rw [hp1]
      rw [← hp1]
      by_cases c3 : p1.2.2 ≤ 0
      · subst hz
        rw [br_le c3, set1, nth1]
        exact ⟨_, _, rfl, .inl ⟨rfl, c3⟩⟩
      · rw [br_gt (by omega), overlap_j8_eq, nth1, set1, nth1, set1]
        rw [wrap_id (x := p1.1 + δ) (by omega) (by omega), wrap_id (x := p1.2.1 + δ) (by omega) (by omega)]
        exact ov9 K ex pr hex z hz (k + 1) (p1.1 + δ, p1.2.1 + δ, p1.2.2) (by unfold Ok1; dsimp only; omega) (by rw [b1, b2, b3]; exact Sub.front hs (by omega))
    · rw [decide_eq_false c2]
      exact no
  · rw [br_gt (by omega)]
    exact no
theorem ov4 (k : Nat) (p : Dg) (hp : Ok1 p) (hs : Sub p pr) : Ov ex pr (overlap_j4 K (k + 11) (0 : Int) [ex] (0 : Int) [p] (0 : Int) z) := by
  have h6 := ov6 K ex pr hex z hz (k + 1) p hp hs
  have he := hex
  unfold Ok1 at he hp
  have no : Ov ex pr (overlap_j5 K (k + 10) (0 : Int) [ex] (0 : Int) [p] (0 : Int) z false) := by
    rw [overlap_j5_eq, br_false]
    exact h6
  rw [overlap_j4_eq, nth1 p, nth1 ex]
  by_cases c1 : p.2.1 ≤ ex.2.1
  · rw [br_le c1, wrap_id (by omega) (by omega), ltI_eq]
    by_cases c2 : ex.2.1 < p.2.1 + p.2.2
    · rw [decide_eq_true c2, overlap_j5_eq, br_true, nth1 p, nth1 ex, set1, nth1]
      rw [wrap_id (x := p.2.1 + p.2.2) (by omega) (by omega), wrap_id (x := p.2.1 + p.2.2 - ex.2.1) (by omega) (by omega), wrap_id (x := p.2.2 - (p.2.1 + p.2.2 - ex.2.1)) (by omega) (by omega)]
      obtain ⟨δ, hδ⟩ : ∃ δ, δ = p.2.1 + p.2.2 - ex.2.1 := ⟨_, rfl⟩
      rw [← hδ]
      obtain ⟨p1, hp1⟩ : ∃ p1 : Dg, p1 = (p.1, p.2.1, p.2.2 - δ) := ⟨_, rfl⟩
      have b1 : p1.1 = p.1 := by rw [hp1]
      have b2 : p1.2.1 = p.2.1 := by rw [hp1]
      have b3 : p1.2.2 = p.2.2 - δ := by rw [hp1]
      rw [← hp1]
      by_cases c3 : p1.2.2 ≤ 0
      · subst hz
        rw [br_le c3, set1, nth1]
        exact ⟨_, _, rfl, .inl ⟨rfl, c3⟩⟩
      · rw [br_gt (by omega)]
        exact ov6 K ex pr hex z hz (k + 1) p1 (by unfold Ok1; omega) (by rw [hp1]; exact Sub.rear hs (by omega))
    · rw [decide_eq_false c2]
      exact no
  · rw [br_gt (by omega)]
    exact no
theorem ov1 (k : Nat) (p : Dg) (hp : Ok1 p) (hs : Sub p pr) : Ov ex pr (overlap_j1 K (k + 15) (0 : Int) [ex] (0 : Int) [p] (0 : Int) z) := by
  have h4 := ov4 K ex pr hex z hz (k + 2) p hp hs
  have he := hex
  unfold Ok1 at he hp
  have no : Ov ex pr (overlap_j2 K (k + 14) (0 : Int) [ex] (0 : Int) [p] (0 : Int) z false) := by
    rw [overlap_j2_eq, br_false]
    exact h4
  rw [overlap_j1_eq, nth1 p, nth1 ex]
  by_cases c1 : ex.1 ≤ p.1
  · rw [br_le c1, wrap_id (by omega) (by omega), ltI_eq]
    by_cases c2 : p.1 < ex.1 + ex.2.2
    · rw [decide_eq_true c2, overlap_j2_eq, br_true, nth1 p, nth1 ex, set1, nth1]
      rw [wrap_id (x := ex.1 + ex.2.2) (by omega) (by omega), wrap_id (x := ex.1 + ex.2.2 - p.1) (by omega) (by omega), wrap_id (x := p.2.2 - (ex.1 + ex.2.2 - p.1)) (by omega) (by omega)]
      obtain ⟨δ, hδ⟩ : ∃ δ, δ = ex.1 + ex.2.2 - p.1 := ⟨_, rfl⟩
      rw [← hδ]
      obtain ⟨p1, hp1⟩ : ∃ p1 : Dg, p1 = (p.1, p.2.1, p.2.2 - δ) := ⟨_, rfl⟩
      have b1 : p1.1 = p.1 := by rw [hp1]
      have b2 : p1.2.1 = p.2.1 := by rw [hp1]
      have b3 : p1.2.2 = p.2.2 - δ := by rw [hp1]
      rw [← hp1]
      by_cases c3 : p1.2.2 ≤ 0
      · subst hz
        rw [br_le c3, set1, nth1]
        exact ⟨_, _, rfl, .inl ⟨rfl, c3⟩⟩
      · rw [br_gt (by omega), overlap_j3_eq, nth1, set1, nth1, set1]
        rw [wrap_id (x := p1.1 + δ) (by omega) (by omega), wrap_id (x := p1.2.1 + δ) (by omega) (by omega)]
        exact ov4 K ex pr hex z hz (k + 1) (p1.1 + δ, p1.2.1 + δ, p1.2.2) (by unfold Ok1; dsimp only; omega) (by rw [b1, b2, b3]; exact Sub.front hs (by omega))
    · rw [decide_eq_false c2]
      exact no
  · rw [br_gt (by omega)]
    exact no
end
theorem overlap_ok (K : Nat) (ex pr : Dg) (hex : Ok1 ex) (hpr : Ok1 pr) (hK : 20 ≤ K) : Ov ex pr (overlap K ex pr) := by
  obtain ⟨K, rfl⟩ : ∃ q, K = q + 20 := ⟨K - 20, by omega⟩
  obtain ⟨z, hz⟩ : ∃ z : List Dg, z = [((0 : Int), ((0 : Int), (0 : Int)))] := ⟨_, rfl⟩
  have h1 := ov1 (K + 19) ex pr hex z hz (K + 3) pr hpr (Sub.refl pr)
  have he := hex
  have hp := hpr
  unfold Ok1 at he hp
  have no : Ov ex pr (overlap_j0 (K + 19) (K + 19) (0 : Int) [ex] (0 : Int) [pr] (0 : Int) z false) := by
    rw [overlap_j0_eq, br_false]
    exact h1
  rw [overlap_eq, ← hz]
  by_cases c1 : pr.1 ≤ ex.1
  · rw [br_le c1, wrap_id (by omega) (by omega), ltI_eq]
    by_cases c2 : ex.1 < pr.1 + pr.2.2
    · rw [decide_eq_true c2, overlap_j0_eq, br_true, nth1 pr, nth1 ex, set1, nth1]
      rw [wrap_id (x := pr.1 + pr.2.2) (by omega) (by omega), wrap_id (x := pr.1 + pr.2.2 - ex.1) (by omega) (by omega), wrap_id (x := pr.2.2 - (pr.1 + pr.2.2 - ex.1)) (by omega) (by omega)]
      obtain ⟨δ, hδ⟩ : ∃ δ, δ = pr.1 + pr.2.2 - ex.1 := ⟨_, rfl⟩
      rw [← hδ]
      obtain ⟨p1, hp1⟩ : ∃ p1 : Dg, p1 = (pr.1, pr.2.1, pr.2.2 - δ) := ⟨_, rfl⟩
      have b1 : p1.1 = pr.1 := by rw [hp1]
      have b2 : p1.2.1 = pr.2.1 := by rw [hp1]
      have b3 : p1.2.2 = pr.2.2 - δ := by rw [hp1]
      rw [← hp1]
      by_cases c3 : p1.2.2 ≤ 0
      · rw [br_le c3, hz, set1, nth1]
        exact ⟨_, _, rfl, .inl ⟨rfl, c3⟩⟩
      · rw [br_gt (by omega)]
        exact ov1 (K + 19) ex pr hex z hz (K + 3) p1 (by unfold Ok1; omega) (by rw [hp1]; exact Sub.rear (Sub.refl pr) (by omega))
    · rw [decide_eq_false c2]
      exact no
  · rw [br_gt (by omega)]
    exact no
/-! ### a list of diagonals none of which overlap -/
theorem good_ok1 {E : Int → Int → Prop} {N M : Int} (hE : Box E N M) (hN : N ≤ 10000) (hM : M ≤ 10000) {d : Dg} (g : Lcs.Good E d) : Ok1 d ∧ d.1 + d.2.2 ≤ N ∧ d.2.1 + d.2.2 ≤ M := by
  have h0 := hE.2.2 _ _ (g.2 0 (Int.le_refl 0) (by have := g.1; omega))
  have h1 := hE.2.2 _ _ (g.2 (d.2.2 - 1) (by have := g.1; omega) (by omega))
  have := g.1
  unfold Ok1
  omega
/-- Diagonals that stand one ahead of the other, any two of them. -/
def Apart2 (E : Int → Int → Prop) (T : List Dg) : Prop := (∀ d ∈ T, Lcs.Good E d) ∧ T.Pairwise fun a b => Lt a b ∨ Lt b a
section
variable (K : Nat) {E : Int → Int → Prop} {N M : Int} (hE : Box E N M) (hN : N ≤ 2000) (hM : M ≤ 2000) (hK : 20000000 ≤ K) {hs : Hp} {x0 : Rf} {L : List Dg}
include hE hN hM hK
theorem fix_l1_ok (x3 : Rf) (T : List Dg) (hl : T.length ≤ 10000) (gT : ∀ d ∈ T, Lcs.Good E d) (x4 : Int) (pr : Dg) (gp : Lcs.Good E pr) (h : Hp) (hT : SlL h 154 TS2 x3 T) (m : Nat) : ∀ (R P : List Dg) (c : Int) (p : Dg) (k : Nat), P ++ R = T → Sub p pr → 1 ≤ p.2.2 → (∀ d ∈ P, Lt p d ∨ Lt d p) → c ≠ 3 → 2 * R.length + 1 + m ≤ k →
    ∃ (k' : Nat) (c' : Int) (p' : Dg), m ≤ k' ∧ fix_l1 K k x0 x3 x4 c (0 : Int) [p] x3 (T.length : Int) (P.length : Int) h = fix_j4 K k' x0 x3 x4 c' (0 : Int) [p'] h ∧ ((p'.2.2 ≤ 0 ∨ c' = 3) ∨ (c' ≠ 3 ∧ Sub p' pr ∧ 1 ≤ p'.2.2 ∧ ∀ d ∈ T, Lt p' d ∨ Lt d p')) := by
  intro R
  induction R with
  | nil =>
    intro P c p k hP hsub hp hcmp hc hk
    rw [List.append_nil] at hP
    subst hP
    obtain ⟨k, rfl⟩ : ∃ q, k = q + 1 := ⟨k - 1, by omega⟩
    refine ⟨k, c, p, by simp only [List.length_nil] at hk; omega, ?_, .inr ⟨hc, hsub, hp, hcmp⟩⟩
    rw [fix_l1_eq, br_ge (by omega)]
  | cons d R ih =>
    intro P c p k hP hsub hp hcmp hc hk
    simp only [List.length_cons] at hk
    obtain ⟨k, rfl⟩ : ∃ q, k = q + 2 := ⟨k - 2, by omega⟩
    have hll : T.length = P.length + (R.length + 1) := by rw [← hP]; simp
    have hLd : T[P.length]'(by omega) = d := by
      have : T[P.length]? = some d := by rw [← hP]; simp
      exact (List.getElem?_eq_some_iff.1 this).2
    have hld : Hp.ld h (.p TS2) (radr 3 (Int.toNat (P.length : Int)) x3) = some d := by
      rw [Int.toNat_natCast, ← hLd]
      exact hT.ld P.length (by omega)
    have gd := gT d (by rw [← hP]; simp)
    obtain ⟨c', p', e1, e2⟩ := overlap_ok K d p (good_ok1 hE (by omega) (by omega) gd).1 (good_ok1 hE (by omega) (by omega) (hsub.good gp hp)).1 (by omega)
    rw [fix_l1_eq, br_lt (by omega), fix_j3_eq, hT.rlen, chk_le (by omega), chk_lt (by omega), hld, obs, nth1, e1, obs]
    show ∃ k' c'' p'', _ ∧ br (eqI c' 0) _ _ = _ ∧ _
    rcases e2 with ⟨rfl, e2⟩ | ⟨e0, e2, e3, e4⟩ | rfl
    · rw [br_eq rfl, set1]
      exact ⟨k, 0, p', by omega, rfl, .inl (.inl e2)⟩
    · rw [br_ne (by omega), br_ne (by omega), set1, wrap_id (by omega) (by omega)]
      obtain ⟨k', c2, p2, g1, g2, g3⟩ := ih (P ++ [d]) c' p' k (by rw [List.append_assoc]; exact hP) (e2.trans hsub) e3 (fun q hq => by
        rcases List.mem_append.1 hq with hq | hq
        · exact Sub.cmp e2 (hcmp q hq)
        · rw [List.mem_singleton.1 hq]
          exact e4) (by omega) (by omega)
      rw [List.length_append] at g2
      exact ⟨k', c2, p2, g1, g2, g3⟩
    · rw [br_ne (by omega), br_eq rfl, set1]
      exact ⟨k, 3, p', by omega, rfl, .inl (.inr rfl)⟩
theorem fix_l0_ok (hl : L.length ≤ 2000) (gL : ∀ d ∈ L, Lcs.Good E d) : ∀ (R P : List Dg) (T : List Dg) (x3 : Rf) (h : Hp) (k : Nat), P ++ R = L → Blt hs h 154 TS2 x3 T → SlL h 154 TS2 x0 L → KeepH hs h → (∀ n l, x0 = .at n 0 l → n < hs.nx) → Apart2 E T → T.length ≤ P.length → 5000 * R.length + 10 ≤ k →
    ∃ h' R', fix_l0 K k x0 x3 (P.length : Int) h = some (h', R') ∧ ∃ S, SlL h' 154 TS2 R' S ∧ Ch E S 0 0 N M ∧ KeepH hs h' ∧ FreeH h' := by
  intro R
  induction R with
  | nil =>
    intro P T x3 h k hP hb hx0 hk0 hn0 ha hT hk
    obtain ⟨k, rfl⟩ : ∃ q, k = q + 2 := ⟨k - 2, by omega⟩
    rw [List.append_nil] at hP
    have hch : Ch E (isV sLt T).reverse 0 0 N M := by
      have hpp := isV_perm sLt T
      refine Ch.of_sorted hE.1 hE.2.1 (fun d hd => ?_) ((hpp.pairwise_iff (fun h => h.symm)).2 ha.2) ((isV_sorted sLt sLt_asym sLt_tr T).imp fun {a b} h => ?_)
      · have g := ha.1 d (hpp.mem_iff.1 hd)
        have := good_ok1 hE (by omega) (by omega) g
        exact ⟨g, this.1.1, this.1.2.1, this.2.1, this.2.2⟩
      · unfold sLt at h
        split at h <;> simp only [decide_eq_false_iff_not] at h <;> omega
    obtain ⟨h', e1, e2⟩ := zzSort_ok (K - 1) 106 sLt (.inr ⟨rfl, rfl⟩) hb (by rw [hP] at hT; omega) (by omega)
    refine ⟨h', x3, ?_, _, e2.sl, hch, e2.1, e2.2.1⟩
    obtain ⟨K', hK'⟩ : ∃ q, K = q + 1 := ⟨K - 1, by omega⟩
    rw [fix_l0_eq, hx0.rlen, br_ge (by rw [hP]; omega), fix_j2_eq]
    have hs1 : sort K h x3 = some (h', x3) := by
      rw [hK', sort_eq]
      rw [hK', Nat.add_sub_cancel] at e1
      rw [e1, obs]
    rw [hs1, obs]
  | cons d R ih =>
    intro P T x3 h k hP hb hx0 hk0 hn0 ha hT hk
    simp only [List.length_cons] at hk
    obtain ⟨k, rfl⟩ : ∃ q, k = q + 2 := ⟨k - 2, by omega⟩
    have hll : L.length = P.length + (R.length + 1) := by rw [← hP]; simp
    have hLd : L[P.length]'(by omega) = d := by
      have : L[P.length]? = some d := by rw [← hP]; simp
      exact (List.getElem?_eq_some_iff.1 this).2
    have hld : Hp.ld h (.p TS2) (radr 3 (Int.toNat (P.length : Int)) x0) = some d := by
      rw [Int.toNat_natCast, ← hLd]
      exact hx0.ld P.length (by omega)
    have gd := gL d (by rw [← hP]; simp)
    rw [fix_l0_eq, hx0.rlen, br_lt (by omega), fix_j1_eq, hx0.rlen, chk_le (by omega), chk_lt (by omega), hld, obs, hb.sl.rlen]
    obtain ⟨k', c', p', g1, g2, g3⟩ := fix_l1_ok K hE hN hM hK (x0 := x0) x3 T (by omega) ha.1 (P.length : Int) d gd h hb.sl (5000 * R.length + 20) T [] 0 d k rfl (Sub.refl d) gd.1 (fun q hq => by cases hq) (by omega) (by omega)
    rw [show ((0 : Int)) = (([] : List Dg).length : Int) from rfl] at g2
    show ∃ h' R', fix_l1 K k x0 x3 (P.length : Int) (([] : List Dg).length : Int) (([] : List Dg).length : Int) [d] x3 (T.length : Int) (([] : List Dg).length : Int) h = _ ∧ _
    rw [g2]
    obtain ⟨k', rfl⟩ : ∃ q, k' = q + 2 := ⟨k' - 2, by omega⟩
    have skip : ∀ kk, 5000 * R.length + 10 ≤ kk → ∃ h' R', fix_j5 K (kk + 1) x0 x3 (P.length : Int) (0 : Int) [p'] false h = some (h', R') ∧ ∃ S, SlL h' 154 TS2 R' S ∧ Ch E S 0 0 N M ∧ KeepH hs h' ∧ FreeH h' := by
      intro kk hkk
      rw [fix_j5_eq, br_false, wrap_id (by omega) (by omega)]
      have := ih (P ++ [d]) T x3 h kk (by rw [List.append_assoc]; exact hP) hb hx0 hk0 hn0 ha (by rw [List.length_append]; omega) hkk
      rw [List.length_append] at this
      exact this
    show ∃ h' R', fix_j4 K (k' + 2) x0 x3 (P.length : Int) c' (0 : Int) [p'] h = _ ∧ _
    rw [fix_j4_eq, nth1]
    rcases g3 with g3 | ⟨q1, q2, q3, q4⟩
    · by_cases c1 : 0 < p'.2.2
      · rw [br_lt c1, eqI_eq, decide_eq_true (by omega)]
        exact skip k' (by omega)
      · rw [br_ge (by omega)]
        exact skip k' (by omega)
    · rw [br_lt (by omega), eqI_eq, decide_eq_false q1]
      show ∃ h' R', fix_j5 K (k' + 1) x0 x3 (P.length : Int) (0 : Int) [p'] true h = _ ∧ _
      obtain ⟨c1, s, c2, c3⟩ := hb.app p'
      have c1 : Hp.cs (Hp.new h 154 (.p TS2) [p']) 3 (.at h.nx 0 1) = _ := c1
      have c2 : Hp.app (Hp.new h 154 (.p TS2) [p']) 154 3 _ 1 x3 = some s := c2
      rw [fix_j5_eq, br_true, nth1]
      show ∃ h' R', Option.bind (Hp.cs (Hp.new h 154 (.p TS2) [p']) 3 (.at h.nx 0 1)) _ = _ ∧ _
      rw [c1, obs]
      show ∃ h' R', chk _ (Option.bind (Hp.app (Hp.new h 154 (.p TS2) [p']) 154 3 _ 1 x3) _) = _ ∧ _
      rw [c2, obs, hb.sl.rlen, chk_lt (by show (T.length : Int) + ((1 : Nat) : Int) < _; omega), wrap_id (by omega) (by omega)]
      have gp' := q2.good gd q3
      have hx0' : SlL s.2 154 TS2 x0 L := by
        rcases hx0 with h1 | ⟨h1, n, h2, h3, h4⟩
        · exact .inl h1
        · have hnn := hn0 n _ h3
          refine .inr ⟨h1, n, Nat.lt_of_lt_of_le hnn c3.1.nx, h3, ?_⟩
          show s.2.ob n = _
          rw [c3.1.ob n hnn, ← hk0.ob n hnn]
          exact h4
      have := ih (P ++ [d]) (T ++ [p']) s.1 s.2 k' (by rw [List.append_assoc]; exact hP) c3 hx0' c3.1 hn0 ⟨fun q hq => by
        rcases List.mem_append.1 hq with hq | hq
        · exact ha.1 q hq
        · rw [List.mem_singleton.1 hq]; exact gp', List.pairwise_append.2 ⟨ha.2, List.pairwise_singleton _ _, fun a ha' b hb' => by rw [List.mem_singleton.1 hb']; exact (q4 a ha').symm⟩⟩ (by rw [List.length_append, List.length_append]; simp only [List.length_cons, List.length_nil]; omega) (by omega)
      rw [List.length_append] at this
      exact this
end
end Go.Proofs.Ytfglahmbnnkijaa.E
