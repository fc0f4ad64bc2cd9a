import Derived.Test.YtfglahmbnnkijaaLH
/- The way back from a label, forward and backward: a chain of diagonals. -/
set_option linter.unusedVariables false
set_option linter.unusedSimpArgs false
namespace Go.Lcs
theorem Ch.len {E : Int → Int → Prop} : ∀ {L : List Dg} {x y X Y : Int}, Ch E L x y X Y → (L.length : Int) ≤ X - x
  | [], _, _, _, _, h => by have := h.1; show ((0 : Nat) : Int) ≤ _; omega
  | d :: L, _, _, _, _, h => by
    have := Ch.len h.2.2.2
    have := h.1
    have := h.2.2.1.1
    rw [List.length_cons]
    omega
end Go.Lcs
namespace Go.Proofs.Ytfglahmbnnkijaa.E
open Go.Ev Go.Lcs
theorem Ch.tiny {E : Int → Int → Prop} {L : List Dg} {x y X Y : Int} (h : Ch E L x y X Y) (h1 : -100000 ≤ x) (h2 : -100000 ≤ y) (h3 : X ≤ 100000) (h4 : Y ≤ 100000) (h5 : X - x ≤ 100000) : Tiny L := by
  refine ⟨by have := Ch.len h; omega, fun d hd => ?_⟩
  obtain ⟨g, a, b, c, e⟩ := Ch.good h d hd
  have := g.1
  omega
theorem ok_ok (K : Nat) (d k : Int) (hK : 1 ≤ K) (h1 : -1000000 ≤ d) (h2 : d ≤ 1000000) : ok K d k = some (decide (0 ≤ d ∧ -d ≤ k ∧ k ≤ d)) := by
  obtain ⟨K, rfl⟩ : ∃ m, K = m + 1 := ⟨K - 1, by omega⟩
  rw [ok_eq]
  by_cases c1 : 0 ≤ d
  · rw [br_le c1, Int.zero_sub, wrap_id (by omega) (by omega)]
    by_cases c2 : -d ≤ k
    · rw [br_le c2, leI_eq]
      congr 1
      exact decide_eq_decide.2 ⟨fun h => ⟨c1, c2, h⟩, fun h => h.2.2⟩
    · rw [br_gt (by omega), decide_eq_false (by omega)]
  · rw [br_gt (by omega), decide_eq_false (by omega)]
section
variable (K : Nat) {ρ : Nat → Option Nat} {h0 hs : Hp} {g : Nat} {i : If} {A B : Nat → Option (List Int)} {lim ux uy dl : Int} (e : EG ρ h0 hs g i A B lim ux uy dl) {E : Int → Int → Prop} (hK : 1000 ≤ K)
include e hK
theorem fl_j3 (k' : Nat) {h : Hp} {r : Rf} {L : List Dg} (hb : Blt hs h 154 TS2 r L) (D k x : Int) (ht : Tiny L) (hx : -10000 ≤ x) (hx2 : x ≤ 10000) (hy : -10000 ≤ x - k) (hy2 : x - k ≤ 10000) :
    ∃ h' r', forwardlcs_j3 K (k' + 1) (.at g 0) D k r x h = forwardlcs_l0 K k' (.at g 0) D k r' (x - 1) h' ∧ Blt hs h' 154 TS2 r' (pre L (x - 1) (x - 1 - k)) := by
  have e1 := e.grow hb.1 hb.2.1
  have l4 := (EG.ld e1 4).2.1 rfl
  have l5 := (EG.ld e1 5).2.2.1 rfl
  obtain ⟨h', r', p1, p2⟩ := prepend_ok K hb (x - 1) (x - 1 - k) ht (by omega) (by omega) (by omega) (by omega) (by omega)
  refine ⟨h', r', ?_, p2⟩
  rw [forwardlcs_j3_eq]
  simp only [np, chk_t]
  rw [l4, obs, l5, obs, Int.add_zero, wrap_id (x := x) (by omega) (by omega), wrap_id (x := x - k) (by omega) (by omega), Int.add_zero, wrap_id (x := x - k) (by omega) (by omega), wrap_id (x := x - 1) (by omega) (by omega), wrap_id (x := x - k - 1) (by omega) (by omega), show x - k - 1 = x - 1 - k by omega, p1, obs]
theorem fl_loop (X Y : Int) (hX : X ≤ 5000) (hY : Y ≤ 5000) : ∀ (n D : Nat) (k x : Int) (h : Hp) (r : Rf) (L : List Dg) (k' : Nat), x + (x - k) ≤ n → 6 * n + 6 ≤ k' → D ≤ 1000 → Blt hs h 154 TS2 r L → Ch E L x (x - k) X Y → BK E (lv A) D k x → (∀ d, d < D → A d ≠ none) → (∀ d, D = d + 1 → Labs E (lv A) d) →
    ∃ h' r' L', forwardlcs_l0 K k' (.at g 0) (D : Int) k r x h = some (h', r') ∧ Blt hs h' 154 TS2 r' L' ∧ Ch E L' 0 0 X Y ∧ 2 * dsum L' = 2 * dsum L + x + (x - k) - D := by
  intro n
  induction n with
  | zero =>
    intro D k x h r L k' hn hk hD hb hc bk hA hV
    obtain ⟨c, ri, l, f1, f2, f3⟩ := bk.p.form
    have z1 : x = 0 := by omega
    have z2 : x - k = 0 := by omega
    have hD0 := bk.fin ⟨z1, z2⟩
    obtain ⟨k', rfl⟩ : ∃ q, k' = q + 1 := ⟨k' - 1, by omega⟩
    refine ⟨h, r, L, ?_, hb, ?_, by omega⟩
    · rw [forwardlcs_l0_eq, br_not, br_eq z1, wrap_id (by omega) (by omega), br_not, br_eq z2]
    · rw [z1, show (0 : Int) - k = 0 by omega] at hc
      exact hc
  | succ n ih =>
    intro D k x h r L k' hn hk hD hb hc bk hA hV
    obtain ⟨c, ri, l, f1, f2, f3⟩ := bk.p.form
    have hcl := hc.le
    obtain ⟨k', rfl⟩ : ∃ q, k' = q + 6 := ⟨k' - 6, by omega⟩
    by_cases hz : x = 0 ∧ x - k = 0
    · have hD0 := bk.fin hz
      refine ⟨h, r, L, ?_, hb, ?_, by omega⟩
      · rw [forwardlcs_l0_eq, br_not, br_eq hz.1, wrap_id (by omega) (by omega), br_not, br_eq hz.2]
      · obtain ⟨z1, z2⟩ := hz
        rw [z1, show (0 : Int) - k = 0 by omega] at hc
        exact hc
    · have start : forwardlcs_l0 K (k' + 6) (.at g 0) (D : Int) k r x h = forwardlcs_j0 K (k' + 5) (.at g 0) (D : Int) k r x h := by
        rw [forwardlcs_l0_eq, br_not]
        by_cases hx : x = 0
        · rw [br_eq hx, wrap_id (by omega) (by omega), br_not, br_ne (by omega)]
        · rw [br_ne hx]
      have e1 := e.grow hb.1 hb.2.1
      have wD : IntKind.wrap IntKind.i64 ((D : Int) - 1) = (D : Int) - 1 := wrap_id (by omega) (by omega)
      have wk : IntKind.wrap IntKind.i64 (k - 1) = k - 1 := wrap_id (by omega) (by omega)
      have wk' : IntKind.wrap IntKind.i64 (k + 1) = k + 1 := wrap_id (by omega) (by omega)
      have wx : IntKind.wrap IntKind.i64 (x - 1) = x - 1 := wrap_id (by omega) (by omega)
      -- to the left
      have s0 : ∃ b, forwardlcs_j0 K (k' + 5) (.at g 0) (D : Int) k r x h = forwardlcs_j1 K (k' + 4) (.at g 0) (D : Int) k r x b h ∧ (b = true → ∃ d : Nat, D = d + 1 ∧ -(d : Int) ≤ k - 1 ∧ k - 1 ≤ d ∧ x - 1 = lv A d (k - 1)) ∧ (b = false → ∀ d : Nat, D = d + 1 → -(d : Int) ≤ k - 1 → k - 1 ≤ d → x - 1 ≠ lv A d (k - 1)) := by
        rw [forwardlcs_j0_eq, wD, wk, ok_ok K _ _ (by omega) (by omega) (by omega), obs]
        by_cases ho : 0 ≤ (D : Int) - 1 ∧ -((D : Int) - 1) ≤ k - 1 ∧ k - 1 ≤ (D : Int) - 1
        · rw [decide_eq_true ho, br_true]
          obtain ⟨d, hd⟩ : ∃ d, D = d + 1 := ⟨D - 1, by omega⟩
          have hgf := getF_ok K e1 d (k - 1) (hA d (by omega)) (by omega) (by omega) (by omega) (by omega)
          rw [show (D : Int) - 1 = (d : Int) by omega, hgf, obs, wx]
          refine ⟨eqI (x - 1) (lv A d (k - 1)), rfl, fun hb => ⟨d, hd, by omega, by omega, ?_⟩, fun hb d' hd' _ _ => ?_⟩
          · rw [eqI_eq] at hb
            exact of_decide_eq_true hb
          · rw [eqI_eq] at hb
            have : d' = d := by omega
            subst this
            exact of_decide_eq_false hb
        · rw [decide_eq_false ho, br_false]
          exact ⟨false, rfl, fun h => (by cases h), fun _ d hd h1 h2 => absurd ⟨by omega, by omega, by omega⟩ ho⟩
      obtain ⟨b, t1, t2, t3⟩ := s0
      rw [start, t1, forwardlcs_j1_eq]
      cases b with
      | true =>
        obtain ⟨d, hd, q1, q2, q3⟩ := t2 rfl
        subst hd
        have bk' := bk.left (hV d rfl) q1 q2 q3
        obtain ⟨h', r', L', g1, g2, g3, g4⟩ := ih d (k - 1) (x - 1) h r L (k' + 3) (by omega) (by omega) (by omega) hb (hc.weak (by omega) (by omega) (Int.le_refl _) (Int.le_refl _)) bk' (fun j hj => hA j (by omega)) (fun j hj => fun d' hd' => hV d rfl d' (by omega))
        refine ⟨h', r', L', ?_, g2, g3, by omega⟩
        rw [br_true, wD, wk, wx, show ((d + 1 : Nat) : Int) - 1 = (d : Int) by omega]
        exact g1
      | false =>
        rw [br_false]
        have s1 : ∃ b, Option.bind (ok K (IntKind.wrap IntKind.i64 ((D : Int) - 1)) (IntKind.wrap IntKind.i64 (k + 1))) (fun r0 => br r0 (Option.bind (getForward K h (.at g 0) (IntKind.wrap IntKind.i64 ((D : Int) - 1)) (IntKind.wrap IntKind.i64 (k + 1))) fun r1 => forwardlcs_j2 K (k' + 3) (.at g 0) (D : Int) k r x (eqI x (r1).2) (r1).1) (forwardlcs_j2 K (k' + 3) (.at g 0) (D : Int) k r x Bool.false h)) = forwardlcs_j2 K (k' + 3) (.at g 0) (D : Int) k r x b h ∧ (b = true → ∃ d : Nat, D = d + 1 ∧ -(d : Int) ≤ k + 1 ∧ k + 1 ≤ d ∧ x = lv A d (k + 1)) ∧ (b = false → ∀ d : Nat, D = d + 1 → -(d : Int) ≤ k + 1 → k + 1 ≤ d → x ≠ lv A d (k + 1)) := by
          rw [wD, wk', ok_ok K _ _ (by omega) (by omega) (by omega), obs]
          by_cases ho : 0 ≤ (D : Int) - 1 ∧ -((D : Int) - 1) ≤ k + 1 ∧ k + 1 ≤ (D : Int) - 1
          · rw [decide_eq_true ho, br_true]
            obtain ⟨d, hd⟩ : ∃ d, D = d + 1 := ⟨D - 1, by omega⟩
            have hgf := getF_ok K e1 d (k + 1) (hA d (by omega)) (by omega) (by omega) (by omega) (by omega)
            rw [show (D : Int) - 1 = (d : Int) by omega, hgf, obs]
            refine ⟨eqI x (lv A d (k + 1)), rfl, fun hb => ⟨d, hd, by omega, by omega, ?_⟩, fun hb d' hd' _ _ => ?_⟩
            · rw [eqI_eq] at hb
              exact of_decide_eq_true hb
            · rw [eqI_eq] at hb
              have : d' = d := by omega
              subst this
              exact of_decide_eq_false hb
          · rw [decide_eq_false ho, br_false]
            exact ⟨false, rfl, fun h => (by cases h), fun _ d hd h1 h2 => absurd ⟨by omega, by omega, by omega⟩ ho⟩
        obtain ⟨b, u1, u2, u3⟩ := s1
        rw [u1, forwardlcs_j2_eq]
        cases b with
        | true =>
          obtain ⟨d, hd, q1, q2, q3⟩ := u2 rfl
          subst hd
          have bk' := bk.down (hV d rfl) q1 q2 q3
          obtain ⟨h', r', L', g1, g2, g3, g4⟩ := ih d (k + 1) x h r L (k' + 2) (by omega) (by omega) (by omega) hb (hc.weak (by omega) (by omega) (Int.le_refl _) (Int.le_refl _)) bk' (fun j hj => hA j (by omega)) (fun j hj => fun d' hd' => hV d rfl d' (by omega))
          refine ⟨h', r', L', ?_, g2, g3, by omega⟩
          rw [br_true, wD, wk', show ((d + 1 : Nat) : Int) - 1 = (d : Int) by omega]
          exact g1
        | false =>
          rw [br_false]
          obtain ⟨hE, bk'⟩ := bk.diag hV hz (t3 rfl) (u3 rfl)
          obtain ⟨c', r2, l', f1', f2', f3'⟩ := bk'.p.form
          obtain ⟨h1, r1, p1, p2⟩ := fl_j3 K e hK (k' + 1) hb (D : Int) k x (Ch.tiny hc (by omega) (by omega) (by omega) (by omega) (by omega)) (by omega) (by omega) (by omega) (by omega)
          have hc' : Ch E L (x - 1 + 1) (x - 1 - k + 1) X Y := by
            rw [show x - 1 + 1 = x by omega, show x - 1 - k + 1 = x - k by omega]
            exact hc
          obtain ⟨hc1, hs1⟩ := hc'.pre hE
          obtain ⟨h', r', L', g1, g2, g3, g4⟩ := ih D k (x - 1) h1 r1 _ (k' + 1) (by omega) (by omega) hD p2 hc1 bk' hA hV
          exact ⟨h', r', L', by rw [p1]; exact g1, g2, g3, by rw [g4, hs1]; omega⟩
theorem forwardlcs_ok (D : Nat) (k : Int) (hD : D ≤ 1000) (h1 : -(D : Int) ≤ k) (h2 : k ≤ D) (h3 : ∃ c : Int, k = D - 2 * c) (hA : ∀ d, d ≤ D → A d ≠ none) (hV : Labs E (lv A) D) (hx : lv A D k ≤ 5000) (hy : lv A D k - k ≤ 5000) (hK2 : 70000 ≤ K) :
    ∃ h' r L, forwardlcs K hs (.at g 0) (D : Int) k = some (h', r) ∧ Blt hs h' 154 TS2 r L ∧ Ch E L 0 0 (lv A D k) (lv A D k - k) ∧ 2 * dsum L = lv A D k + (lv A D k - k) - D := by
  obtain ⟨K, rfl⟩ : ∃ m, K = m + 1 := ⟨K - 1, by omega⟩
  have bk := BK.top hV h1 h2 h3
  obtain ⟨c, ri, l, f1, f2, f3⟩ := bk.p.form
  rw [forwardlcs_eq, getF_ok K e D k (hA D (Nat.le_refl _)) hD h1 h2 (by omega), obs]
  obtain ⟨h', r', L', g1, g2, g3, g4⟩ := fl_loop K e (by omega) (lv A D k) (lv A D k - k) hx hy 10000 D k (lv A D k) hs .nil [] K (by omega) (by omega) hD (Blt.start e.free) ⟨Int.le_refl _, Int.le_refl _⟩ bk (fun d hd => hA d (by omega)) (fun d hd d' hd' => hV d' (by omega))
  refine ⟨h', r', L', g1, g2, g3, ?_⟩
  have : dsum [] = 0 := rfl
  omega
end
end Go.Proofs.Ytfglahmbnnkijaa.E
