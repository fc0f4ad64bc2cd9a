import Derived.Test.YtfglahmbnnkijaaSE
import Derived.Test.YtfglahmbnnkijaaSV
/- The order in which edits are given does not matter, if no two of them begin and end at the same places. -/
set_option linter.unusedVariables false
set_option linter.unusedSimpArgs false
namespace Go.Proofs.Ytfglahmbnnkijaa.E
open Go.Ev Go.Lcs
theorem eLt_asym (a b : Ed) (h : eLt a b = true) : eLt b a = false := by
  unfold eLt at *
  simp only [Bool.or_eq_true, Bool.and_eq_true, decide_eq_true_eq, Bool.or_eq_false_iff, Bool.and_eq_false_iff, decide_eq_false_iff_not] at *
  omega
theorem eLt_tr (a b c : Ed) (h : eLt a b = false) (g : eLt b c = false) : eLt a c = false := by
  unfold eLt at *
  simp only [Bool.or_eq_false_iff, Bool.and_eq_false_iff, decide_eq_false_iff_not] at *
  omega
def Diff (a b : Ed) : Prop := ¬ (a.1 = b.1 ∧ a.2.1 = b.2.1)
theorem Diff.symm {a b : Ed} (h : Diff a b) : Diff b a := fun g => h ⟨g.1.symm, g.2.symm⟩
theorem eLt_of (a b : Ed) (h : eLt b a = false) (d : Diff a b) : eLt a b = true := by
  unfold Diff at d
  unfold eLt at *
  simp only [Bool.or_eq_true, Bool.and_eq_true, decide_eq_true_eq, Bool.or_eq_false_iff, Bool.and_eq_false_iff, decide_eq_false_iff_not] at *
  omega
theorem strict_eq : ∀ (A C : List Ed), A.Perm C → A.Pairwise (fun a b => eLt a b = true) → C.Pairwise (fun a b => eLt a b = true) → A = C
  | [], C, h, _, _ => (List.nil_perm.1 h).symm
  | a :: A, [], h, _, _ => absurd h.length_eq (by simp)
  | a :: A, c :: C, h, hA, hC => by
    rw [List.pairwise_cons] at hA hC
    have hac : a = c := by
      have m1 : a ∈ c :: C := h.mem_iff.1 (List.mem_cons_self ..)
      have m2 : c ∈ a :: A := h.mem_iff.2 (List.mem_cons_self ..)
      rcases List.mem_cons.1 m1 with e | m1
      · exact e
      · rcases List.mem_cons.1 m2 with e | m2
        · exact e.symm
        · have h1 := hC.1 a m1
          have h2 := hA.1 c m2
          rw [eLt_asym _ _ h1] at h2
          cases h2
    subst hac
    rw [strict_eq A C (List.Perm.cons_inv h) hA.2 hC.2]
theorem isV_back (L : List Ed) (h : L.Pairwise Diff) : (isV eLt L.reverse).reverse = (isV eLt L).reverse := by
  have strict : ∀ M : List Ed, M.Pairwise Diff → (isV eLt M).reverse.Pairwise (fun a b => eLt a b = true) := by
    intro M hM
    have h1 := isV_sorted eLt eLt_asym eLt_tr M
    have h2 : (isV eLt M).reverse.Pairwise Diff := ((isV_perm eLt M).pairwise_iff (fun h => Diff.symm h)).2 hM
    exact List.Pairwise.imp (fun {a b} h => eLt_of a b h.1 h.2) (h1.and h2)
  refine strict_eq _ _ ?_ (strict _ ?_) (strict _ h)
  · exact (isV_perm eLt L.reverse).trans ((List.reverse_perm L).trans (isV_perm eLt L).symm)
  · exact ((List.reverse_perm L).pairwise_iff (fun h => Diff.symm h)).2 h
theorem Pure.FnUdiffOrder (x : ByteArray) (l : List TS1.den) (_w : x.size ≤ 9223372036854775807) (_h : l.length ≤ 9223372036854775807 ∧ ∀ y ∈ l, ((Lit.int .i64 y.1).wf = true) ∧ ((Lit.int .i64 y.2.1).wf = true) ∧ (y.2.2.size ≤ 9223372036854775807)) : ∃ k, callF k 4 (x, l, ()) = some true := by
  obtain ⟨K, hK0⟩ : ∃ K, K = 2 * l.length + 2999999999 := ⟨_, rfl⟩
  refine ⟨K + 1, ?_⟩
  show E.FnUdiffOrder (K + 1) x l = some true
  have hK : 2999999999 ≤ K := by omega
  have hK2 : 2 * l.length + 10 ≤ K := by omega
  clear hK0
  have aw : editAwake K = some true := by
    have := awake (K - 60)
    rwa [show K - 60 + 60 = K by omega] at this
  obtain ⟨k, hk⟩ : ∃ m, K = m + 4 := ⟨K - 4, by omega⟩
  have j0 : ∀ b, FnUdiffOrder_j0 K K x l b = FnUdiffOrder_j0 K (k + 4) x l b := fun b => by rw [← hk]
  have big : FnUdiffOrder_j0 K K x l true = some true := by rw [j0, FnUdiffOrder_j0_eq, br_true]
  rw [FnUdiffOrder_eq]
  by_cases hx : (2147483647 : Int) < (x.size : Int)
  · rw [br_lt hx, big]
  rw [br_ge (by omega)]
  obtain ⟨b, hf, hl⟩ := zzFits8_ok K l hK2
  rw [hf, obs]
  cases b with
  | false => exact big
  | true =>
    have hl := hl rfl
    have fe := editFew_ok K l (by omega)
    have skip : ∀ k, FnUdiffOrder_j2 K (k + 1) x l true = some true := fun k => by rw [FnUdiffOrder_j2_eq, br_true, aw, obs]
    rw [Bool.not_true, j0, FnUdiffOrder_j0_eq, br_false, FnUdiffOrder_j1_eq]
    by_cases hx2 : (200 : Int) < (x.size : Int)
    · rw [br_lt hx2, skip]
    rw [br_ge (by omega), fe, obs]
    cases hw : few l with
    | false => exact skip _
    | true =>
      obtain ⟨h12, hs⟩ := few_iff hw
      rw [Bool.not_true, FnUdiffOrder_j2_eq, br_false, FnUdiffOrder_j3_eq, wrap_id (by omega) (by omega)]
      have fin : ∀ k, l.Pairwise Diff → FnUdiffOrder_j5 K (k + 1) x l l.reverse = some true := by
        intro k hd
        have a1 := ApplyEdits_ok K x l hs (by omega) h12 (by omega)
        have a2 := ApplyEdits_ok K x l.reverse (fun e he => hs e (List.mem_reverse.1 he)) (by omega) (by rw [List.length_reverse]; exact h12) (by omega)
        rw [isV_back l hd] at a2
        rw [FnUdiffOrder_j5_eq, editOwn_ok K l (by omega) (by omega), obs, a1, obs, a2, obs, aw, obs, br_true]
        show br (eqS (aout x (isV eLt l).reverse) (aout x (isV eLt l).reverse)) (some (eqS (aerr x (isV eLt l).reverse) (aerr x (isV eLt l).reverse))) (some false) = some true
        rw [eqS_iff, eqS_iff, decide_eq_true rfl, decide_eq_true rfl]
        rfl
      have inner : ∀ (m j k kn : Nat) (P R : List Ed) (e : Ed), P ++ e :: R = l → j + m = P.length → 3 * m + 1 + kn ≤ k → 3 ≤ kn → (∀ t, (ht : t < j) → (hp : t < P.length) → Diff P[t] e) →
          ((∀ p ∈ P, Diff p e) → ∀ k, kn ≤ k → FnUdiffOrder_j7 K k x l R.reverse (P.length : Int) = some true) → FnUdiffOrder_l1 K k x l R.reverse (P.length : Int) (P.length : Int) (j : Int) = some true := by
        intro m
        induction m with
        | zero =>
          intro j k kn P R e hP hj hk hkn hd hnx
          obtain ⟨k, rfl⟩ : ∃ m, k = m + 1 := ⟨k - 1, by omega⟩
          rw [FnUdiffOrder_l1_eq, br_ge (by omega)]
          refine hnx (fun p hp => ?_) k (by omega)
          obtain ⟨t, ht, rfl⟩ := List.mem_iff_getElem.1 hp
          exact hd t (by omega) ht
        | succ m ih =>
          intro j k kn P R e hP hj hk hkn hd hnx
          obtain ⟨k, rfl⟩ : ∃ q, k = q + 3 := ⟨k - 3, by omega⟩
          have hll : l.length = P.length + (R.length + 1) := by rw [← hP]; simp
          have g1 : nth TS1 l (P.length : Int) = e := by rw [← hP]; exact nth_mid TS1 P e R
          have g2 : nth TS1 l (j : Int) = P[j]'(by omega) := by
            rw [nth_at TS1 l j (by omega)]
            have : l[j]? = some (P[j]'(by omega)) := by rw [← hP, List.getElem?_append_left (by omega)]; exact List.getElem?_eq_getElem _
            exact (List.getElem?_eq_some_iff.1 this).2
          have nx : Diff P[j] e → FnUdiffOrder_j8 K (k + 1) x l R.reverse (P.length : Int) (P.length : Int) (j : Int) false = some true := by
            intro hde
            rw [FnUdiffOrder_j8_eq, br_false, wrap_id (by omega) (by omega)]
            have := ih (j + 1) k kn P R e hP (by omega) (by omega) hkn (fun t ht hp => by
              by_cases e : t = j
              · subst e; exact hde
              · exact hd t (by omega) hp) hnx
            exact this
          rw [FnUdiffOrder_l1_eq, br_lt (by omega), FnUdiffOrder_j6_eq, g1, g2, chk_le (by omega), chk_lt (by omega), chk_le (by omega), chk_lt (by omega)]
          by_cases c1 : (e.1 : Int) = (P[j]'(by omega)).1
          · rw [br_eq c1, chk_le (by omega), chk_lt (by omega), chk_le (by omega), chk_lt (by omega), eqI_eq]
            by_cases c2 : (e.2.1 : Int) = (P[j]'(by omega)).2.1
            · rw [decide_eq_true c2, FnUdiffOrder_j8_eq, br_true, aw, obs]
            · rw [decide_eq_false c2]
              exact nx fun h => c2 h.2.symm
          · rw [br_ne c1]
            exact nx fun h => c1 h.1.symm
      have outer : ∀ (m k : Nat) (P R : List Ed), P ++ R = l → P.length = m → 60 * m + 5 ≤ k → R.Pairwise Diff → (∀ p ∈ P, ∀ r ∈ R, Diff p r) → FnUdiffOrder_l0 K k x l R.reverse ((m : Int) - 1) = some true := by
        intro m
        induction m with
        | zero =>
          intro k P R hP hm hk h1 h2
          obtain ⟨k, rfl⟩ : ∃ q, k = q + 2 := ⟨k - 2, by omega⟩
          have : P = [] := List.eq_nil_of_length_eq_zero hm
          subst this
          have hP : R = l := hP
          subst hP
          rw [FnUdiffOrder_l0_eq, br_gt (by omega)]
          exact fin k h1
        | succ m ih =>
          intro k P R hP hm hk h1 h2
          obtain ⟨k, rfl⟩ : ∃ q, k = q + 2 := ⟨k - 2, by omega⟩
          obtain ⟨P, e, rfl⟩ : ∃ Q e, P = Q ++ [e] := by
            have hr : P.reverse.length = m + 1 := by rw [List.length_reverse]; exact hm
            match hpr : P.reverse, hr with
            | e :: Q, _ => exact ⟨Q.reverse, e, by rw [← List.reverse_reverse P, hpr]; simp⟩
          have hm' : P.length = m := by simp at hm; exact hm
          have hP' : P ++ e :: R = l := by rw [← hP]; simp
          have hll : l.length = P.length + (R.length + 1) := by rw [← hP']; simp
          rw [show (((m + 1 : Nat) : Int) - 1) = (P.length : Int) by omega, FnUdiffOrder_l0_eq, br_le (by omega), FnUdiffOrder_j4_eq]
          refine inner P.length 0 k (60 * m + 6) P R e hP' (by omega) (by omega) (by omega) (fun t ht => absurd ht (by omega)) (fun hd k hk => ?_)
          obtain ⟨k, rfl⟩ : ∃ q, k = q + 1 := ⟨k - 1, by omega⟩
          have g1 : nth TS1 l (P.length : Int) = e := by rw [← hP']; exact nth_mid TS1 P e R
          rw [FnUdiffOrder_j7_eq, g1, chk_le (by omega), chk_lt (by omega), chk_lt (by simp only [List.length_cons, List.length_nil, List.length_reverse]; omega), wrap_id (by omega) (by omega)]
          have := ih k P (e :: R) hP' hm' (by omega) (by
            rw [List.pairwise_cons]
            exact ⟨fun r hr => h2 e (by simp) r hr, h1⟩) (fun p hp r hr => by
            rcases List.mem_cons.1 hr with rfl | hr
            · exact hd p hp
            · exact h2 p (by simp [hp]) r hr)
          rw [List.reverse_cons] at this
          rw [hm']
          exact this
      have := outer l.length k l [] (by simp) rfl (by omega) List.Pairwise.nil (fun p _ r hr => by cases hr)
      exact this
end Go.Proofs.Ytfglahmbnnkijaa.E
