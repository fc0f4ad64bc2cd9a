import Derived.Test.YtfglahmbnnkijaaLI
/- The backward half: how far diagonals lead, labels put, the way back. -/
set_option linter.unusedVariables false
set_option linter.unusedSimpArgs false
namespace Go.Proofs.Ytfglahmbnnkijaa.E
open Go.Ev Go.Lcs
/-- The backward labels, as the graph has them that is seen from its end. -/
def bV (B : Nat → Option (List Int)) (N : Int) (d : Nat) (k : Int) : Int := N - lv B d (-k)
section
variable (K : Nat) {ρ : Nat → Option Nat} {h0 hs : Hp} {g : Nat} {i : If} {A B : Nat → Option (List Int)} {lim N M : Int} (e : EG ρ h0 hs g i A B lim N M (N - M)) {Q : Int → Int → Prop}
include e
theorem lookB_ok (sq : SeqOk h0 i N M Q) (hN : 0 ≤ N) (hM : 0 ≤ M) (hN2 : N ≤ 100000) (hM2 : M ≤ 100000) (k r : Int) (hr : r ≤ N) (hr2 : -100000 ≤ r) (hk : r - (k + (N - M)) ≤ M) (hk2 : -100000 ≤ r - (k + (N - M))) (hk3 : -100000 ≤ k) (hk4 : k ≤ 100000) (hK : 4000 ≤ K) :
    ∃ h' x, lookBackward K hs (.at g 0) k r = some (h', x) ∧ KeepH hs h' ∧ FreeH h' ∧ Look (Rev (EM Q N M) N M) (-k) (N - r) (N - x) := by
  obtain ⟨K, rfl⟩ : ∃ m, K = m + 1 := ⟨K - 1, by omega⟩
  obtain ⟨q, hq⟩ : ∃ q, K = q + 1 := ⟨K - 1, by omega⟩
  have l4 := (EG.ld e 4).2.1 rfl
  have l5 := (EG.ld e 5).2.2.1 rfl
  have l8 := (EG.ld e 8).2.2.2.2.2.1 rfl
  have l0 := (EG.ld e 0).2.2.2.2.2.2 rfl
  have hy : ∃ y, y = r - (k + (N - M)) := ⟨_, rfl⟩
  obtain ⟨y, hy⟩ := hy
  rw [← hy] at hk hk2
  have j0 : ∀ b, lookBackward_j0 K K (.at g 0) r y b hs = lookBackward_j0 K (q + 1) (.at g 0) r y b hs := fun b => by rw [← hq]
  have out : (¬ (0 < r ∧ 0 < y)) → ∃ h' x, lookBackward_j0 K K (.at g 0) r y false hs = some (h', x) ∧ KeepH hs h' ∧ FreeH h' ∧ Look (Rev (EM Q N M) N M) (-k) (N - r) (N - x) := by
    intro hc
    rw [j0, lookBackward_j0_eq, br_false]
    refine ⟨hs, r, rfl, KeepH.refl hs, e.free, Int.le_refl _, fun x h1 h2 => by omega, fun he => hc ?_⟩
    have h1 := he.1
    have h2 := he.2.2.1
    omega
  rw [lookBackward_eq]
  simp only [np, chk_t]
  rw [l8, obs, l4, obs, l5, obs, Int.add_zero, wrap_id (x := r) (by omega) (by omega), wrap_id (x := k + (N - M)) (by omega) (by omega), ← hy, wrap_id (x := y) (by omega) (by omega), Int.add_zero, wrap_id (x := y) (by omega) (by omega)]
  by_cases c1 : 0 < r
  · rw [br_lt c1, ltI_eq]
    by_cases c2 : 0 < y
    · rw [decide_eq_true c2, j0, lookBackward_j0_eq, br_true]
      simp only [np, chk_t]
      rw [l0, obs]
      have fin : ∀ (f : SeqF) (ra rb : Rf), SfxOk f h0 N M Q ra rb → ∃ h' x, Option.bind (f K hs (ra, rb) 0 r 0 y) (fun r2 => some (r2.1, IntKind.wrap IntKind.i64 (r - r2.2))) = some (h', x) ∧ KeepH hs h' ∧ FreeH h' ∧ Look (Rev (EM Q N M) N M) (-k) (N - r) (N - x) := by
        intro f ra rb hp
        obtain ⟨h', c, p1, p2, p3, p4, p5, p6, p7, p8⟩ := hp K hs (by omega) e.keep e.free 0 r 0 y (Int.le_refl 0) (by omega) hr (Int.le_refl 0) (by omega) hk
        refine ⟨h', r - c, ?_, p2, p3, by omega, fun x h1 h2 => ?_, fun he => ?_⟩
        · rw [p1, obs, wrap_id (by omega) (by omega)]
        · have := p7 (x - (N - r)) (by omega) (by omega)
          show EM Q N M (N - 1 - x) (M - 1 - (x - -k))
          rw [show r - 1 - (x - (N - r)) = N - 1 - x by omega, show y - 1 - (x - (N - r)) = M - 1 - (x - -k) by omega] at this
          exact ⟨by omega, by omega, by omega, by omega, this⟩
        · have he : EM Q N M (N - 1 - (N - (r - c))) (M - 1 - (N - (r - c) - -k)) := he
          rw [show N - 1 - (N - (r - c)) = r - 1 - c by omega, show M - 1 - (N - (r - c) - -k) = y - 1 - c by omega] at he
          exact p8 (by have := he.1; omega) (by have := he.2.2.1; omega) he.2.2.2.2
      obtain ⟨ra, rb, sq⟩ := sq
      rcases sq with ⟨rfl, _, s1⟩ | ⟨rfl, _, s1⟩ | ⟨rfl, _, s1⟩
      · rw [(cases2 111 ra rb).1, br_true, (cases2 111 ra rb).2, obs]
        exact fin _ ra rb s1
      · rw [show itag 111 (If.two 118 ra rb) = false from rfl, br_false, (cases2 118 ra rb).1, br_true, (cases2 118 ra rb).2, obs]
        exact fin _ ra rb s1
      · rw [show itag 111 (If.two 120 ra rb) = false from rfl, br_false, show itag 118 (If.two 120 ra rb) = false from rfl, br_false, (cases2 120 ra rb).1, br_true, (cases2 120 ra rb).2, obs]
        exact fin _ ra rb s1
    · rw [decide_eq_false c2]
      exact out fun h => c2 h.2
  · rw [br_ge (by omega)]
    exact out fun h => c1 h.1
theorem setB_ok (sq : SeqOk h0 i N M Q) (hN : 0 ≤ N) (hM : 0 ≤ M) (hN2 : N ≤ 100000) (hM2 : M ≤ 100000) (D : Nat) (k r : Int) (hD2 : D ≤ 50) (h1 : -(D : Int) ≤ k) (h2 : k ≤ D) (hr : r ≤ N) (hr2 : -50000 ≤ r) (hk : r - (k + (N - M)) ≤ M) (hk2 : -50000 ≤ r - (k + (N - M))) (hK : 5000 ≤ K) :
    ∃ h' ρ' x, setBackward K hs (.at g 0) (D : Int) k r = some h' ∧ Step ρ hs ρ' h' ∧ EG ρ' h0 h' g i A (put B D ((rowOf B D).set (((D : Int) + k) / 2).toNat x)) lim N M (N - M) ∧ Look (Rev (EM Q N M) N M) (-k) (N - r) (N - x) := by
  obtain ⟨K, rfl⟩ : ∃ m, K = m + 1 := ⟨K - 1, by omega⟩
  obtain ⟨h1', x, a1, a2, a3, a4⟩ := lookB_ok K e sq hN hM hN2 hM2 k r hr (by omega) hk (by omega) (by omega) (by omega) (by omega)
  have e1 := e.grow a2 a3
  have l4 := (EG.ld e1 4).2.1 rfl
  obtain ⟨h2', ρ', b1, b2, b3⟩ := set2_ok K e1 D k x hD2 h1 h2 (by omega)
  have hx1 : x ≤ r := by have := a4.1; omega
  have hx0 : min r 0 ≤ x := by
    by_cases hc : r ≤ x
    · omega
    · have := (a4.2.1 (N - x - 1) (by omega) (by omega)).1
      omega
  refine ⟨h2', ρ', x, ?_, (Step.of_keep a2).trans b2, b3, a4⟩
  rw [setBackward_eq, a1, obs]
  simp only [np, chk_t]
  rw [l4, obs, Int.sub_zero, wrap_id (by omega) (by omega), b1, obs]
variable {E : Int → Int → Prop} (hK : 1000 ≤ K)
include hK
theorem bl_j3 (k' : Nat) {h : Hp} {r : Rf} {L : List Dg} (hb : Blt hs h 154 TS2 r L) (D k x y : Int) (hyk : y = x - (k + (N - M))) (ht : Tiny L) (hx : -10000 ≤ x) (hx2 : x ≤ 10000) (hy : -10000 ≤ y) (hy2 : y ≤ 10000) (hk : -10000 ≤ k + (N - M)) (hk2 : k + (N - M) ≤ 10000) :
    ∃ h' r', backwardlcs_j3 K (k' + 1) (.at g 0) D k r x h = backwardlcs_l0 K k' (.at g 0) D k r' (x + 1) h' ∧ Blt hs h' 154 TS2 r' (snoc L x y) := by
  have e1 := e.grow hb.1 hb.2.1
  have l4 := (EG.ld e1 4).2.1 rfl
  have l5 := (EG.ld e1 5).2.2.1 rfl
  have l8 := (EG.ld e1 8).2.2.2.2.2.1 rfl
  obtain ⟨h', r', p1, p2⟩ := append_ok K hb x y ht (by omega) (by omega) (by omega) (by omega) (by omega)
  refine ⟨h', r', ?_, p2⟩
  rw [backwardlcs_j3_eq]
  simp only [np, chk_t]
  rw [l8, obs, l4, obs, l5, obs, Int.add_zero, wrap_id (x := x) (by omega) (by omega), wrap_id (x := k + (N - M)) (by omega) (by omega), ← hyk, wrap_id (x := y) (by omega) (by omega), Int.add_zero, wrap_id (x := y) (by omega) (by omega), p1, obs, wrap_id (by omega) (by omega)]
theorem bl_loop (hN0 : 0 ≤ N) (hM0 : 0 ≤ M) (hN2 : N ≤ 2000) (hM2 : M ≤ 2000) (X Y : Int) (hX : 0 ≤ X) (hY : 0 ≤ Y) : ∀ (n D : Nat) (k x y : Int) (h : Hp) (r : Rf) (L : List Dg) (k' : Nat), y = x - (k + (N - M)) → (N - x) + (M - y) ≤ n → 6 * n + 6 ≤ k' → D ≤ 1000 → Blt hs h 154 TS2 r L → Ch E L X Y x y → BK (Rev E N M) (bV B N) D (-k) (N - x) → (∀ d, d < D → B d ≠ none) → (∀ d, D = d + 1 → Labs (Rev E N M) (bV B N) d) →
    ∃ h' r' L', backwardlcs_l0 K k' (.at g 0) (D : Int) k r x h = some (h', r') ∧ Blt hs h' 154 TS2 r' L' ∧ Ch E L' X Y N M ∧ 2 * dsum L' = 2 * dsum L + (N - x) + (M - y) - D := by
  have load : ∀ {h : Hp} {r : Rf} {L : List Dg}, Blt hs h 154 TS2 r L → Hp.ld h (.p (.int .i64)) (padd 6 (.at g 0)) = some N ∧ Hp.ld h (.p (.int .i64)) (padd 7 (.at g 0)) = some M ∧ Hp.ld h (.p (.int .i64)) (padd 8 (.at g 0)) = some (N - M) := by
    intro h r L hb
    have e1 := e.grow hb.1 hb.2.1
    exact ⟨(EG.ld e1 6).2.2.2.1 rfl, (EG.ld e1 7).2.2.2.2.1 rfl, (EG.ld e1 8).2.2.2.2.2.1 rfl⟩
  have done : ∀ {h : Hp} {r : Rf} {L : List Dg} (k' : Nat) (D k x y : Int), y = x - (k + (N - M)) → Blt hs h 154 TS2 r L → x = N → y = M → -100000 ≤ k → k ≤ 100000 → backwardlcs_l0 K (k' + 1) (.at g 0) D k r x h = some (h, r) := by
    intro h r L k' D k x y hyk hb hx hy hk1 hk2
    obtain ⟨l6, l7, l8⟩ := load hb
    rw [backwardlcs_l0_eq]
    simp only [np, chk_t]
    rw [l6, obs, br_not, br_eq hx, l8, obs, l7, obs, wrap_id (x := k + (N - M)) (by omega) (by omega), ← hyk, wrap_id (x := y) (by omega) (by omega), br_not, br_eq hy]
  intro n
  induction n with
  | zero =>
    intro D k x y h r L k' hyk hn hk hD hb hc bk hB hV
    obtain ⟨c, ri, l, f1, f2, f3⟩ := bk.p.form
    have z1 : x = N := by omega
    have z2 : y = M := by omega
    have hD0 := bk.fin ⟨by omega, by omega⟩
    obtain ⟨k', rfl⟩ : ∃ q, k' = q + 1 := ⟨k' - 1, by omega⟩
    refine ⟨h, r, L, done k' _ k x y hyk hb z1 z2 (by omega) (by omega), hb, ?_, by omega⟩
    rw [z1, z2] at hc
    exact hc
  | succ n ih =>
    intro D k x y h r L k' hyk hn hk hD hb hc bk hB hV
    obtain ⟨c, ri, l, f1, f2, f3⟩ := bk.p.form
    have hcl := hc.le
    obtain ⟨k', rfl⟩ : ∃ q, k' = q + 6 := ⟨k' - 6, by omega⟩
    by_cases hz : x = N ∧ y = M
    · have hD0 := bk.fin ⟨by omega, by omega⟩
      refine ⟨h, r, L, done (k' + 5) _ k x y hyk hb hz.1 hz.2 (by omega) (by omega), hb, ?_, by omega⟩
      obtain ⟨z1, z2⟩ := hz
      rw [z1, z2] at hc
      exact hc
    · have start : backwardlcs_l0 K (k' + 6) (.at g 0) (D : Int) k r x h = backwardlcs_j0 K (k' + 5) (.at g 0) (D : Int) k r x h := by
        obtain ⟨l6, l7, l8⟩ := load hb
        rw [backwardlcs_l0_eq]
        simp only [np, chk_t]
        rw [l6, obs, br_not]
        by_cases hx : x = N
        · rw [br_eq hx, l8, obs, l7, obs, wrap_id (x := k + (N - M)) (by omega) (by omega), ← hyk, wrap_id (x := y) (by omega) (by omega), br_not, br_ne (fun h => hz ⟨hx, h⟩)]
        · rw [br_ne hx]
      have e1 := e.grow hb.1 hb.2.1
      have wD : IntKind.wrap IntKind.i64 ((D : Int) - 1) = (D : Int) - 1 := wrap_id (by omega) (by omega)
      have wk : IntKind.wrap IntKind.i64 (k - 1) = k - 1 := wrap_id (by omega) (by omega)
      have wk' : IntKind.wrap IntKind.i64 (k + 1) = k + 1 := wrap_id (by omega) (by omega)
      have wx : IntKind.wrap IntKind.i64 (x + 1) = x + 1 := wrap_id (by omega) (by omega)
      have s0 : ∃ b, backwardlcs_j0 K (k' + 5) (.at g 0) (D : Int) k r x h = backwardlcs_j1 K (k' + 4) (.at g 0) (D : Int) k r x b h ∧ (b = true → ∃ d : Nat, D = d + 1 ∧ -(d : Int) ≤ k - 1 ∧ k - 1 ≤ d ∧ x = lv B d (k - 1)) ∧ (b = false → ∀ d : Nat, D = d + 1 → -(d : Int) ≤ k - 1 → k - 1 ≤ d → x ≠ lv B d (k - 1)) := by
        rw [backwardlcs_j0_eq, wD, wk, ok_ok K _ _ (by omega) (by omega) (by omega), obs]
        by_cases ho : 0 ≤ (D : Int) - 1 ∧ -((D : Int) - 1) ≤ k - 1 ∧ k - 1 ≤ (D : Int) - 1
        · rw [decide_eq_true ho, br_true]
          obtain ⟨d, hd⟩ : ∃ d, D = d + 1 := ⟨D - 1, by omega⟩
          have hgf := getB_ok K e1 d (k - 1) (hB d (by omega)) (by omega) (by omega) (by omega) (by omega)
          rw [show (D : Int) - 1 = (d : Int) by omega, hgf, obs]
          refine ⟨eqI x (lv B d (k - 1)), rfl, fun hb => ⟨d, hd, by omega, by omega, ?_⟩, fun hb d' hd' _ _ => ?_⟩
          · rw [eqI_eq] at hb
            exact of_decide_eq_true hb
          · rw [eqI_eq] at hb
            have : d' = d := by omega
            subst this
            exact of_decide_eq_false hb
        · rw [decide_eq_false ho, br_false]
          exact ⟨false, rfl, fun h => (by cases h), fun _ d hd h1 h2 => absurd ⟨by omega, by omega, by omega⟩ ho⟩
      obtain ⟨b, t1, t2, t3⟩ := s0
      rw [start, t1, backwardlcs_j1_eq]
      cases b with
      | true =>
        obtain ⟨d, hd, q1, q2, q3⟩ := t2 rfl
        subst hd
        have bk' := bk.down (hV d rfl) (by omega) (by omega) (show N - x = bV B N d (-k + 1) by unfold bV; rw [show -(-k + 1) = k - 1 by omega, ← q3])
        rw [show -k + 1 = -(k - 1) by omega] at bk'
        obtain ⟨h', r', L', g1, g2, g3, g4⟩ := ih d (k - 1) x (y + 1) h r L (k' + 3) (by omega) (by omega) (by omega) (by omega) hb (hc.weak (Int.le_refl _) (Int.le_refl _) (by omega) (by omega)) bk' (fun j hj => hB j (by omega)) (fun j hj => fun d' hd' => hV d rfl d' (by omega))
        refine ⟨h', r', L', ?_, g2, g3, by omega⟩
        rw [br_true, wD, wk, show ((d + 1 : Nat) : Int) - 1 = (d : Int) by omega]
        exact g1
      | false =>
        rw [br_false]
        have s1 : ∃ b, Option.bind (ok K (IntKind.wrap IntKind.i64 ((D : Int) - 1)) (IntKind.wrap IntKind.i64 (k + 1))) (fun r0 => br r0 (Option.bind (getBackward K h (.at g 0) (IntKind.wrap IntKind.i64 ((D : Int) - 1)) (IntKind.wrap IntKind.i64 (k + 1))) fun r1 => backwardlcs_j2 K (k' + 3) (.at g 0) (D : Int) k r x (eqI (IntKind.wrap IntKind.i64 (x + 1)) (r1).2) (r1).1) (backwardlcs_j2 K (k' + 3) (.at g 0) (D : Int) k r x Bool.false h)) = backwardlcs_j2 K (k' + 3) (.at g 0) (D : Int) k r x b h ∧ (b = true → ∃ d : Nat, D = d + 1 ∧ -(d : Int) ≤ k + 1 ∧ k + 1 ≤ d ∧ x + 1 = lv B d (k + 1)) ∧ (b = false → ∀ d : Nat, D = d + 1 → -(d : Int) ≤ k + 1 → k + 1 ≤ d → x + 1 ≠ lv B d (k + 1)) := by
          rw [wD, wk', wx, ok_ok K _ _ (by omega) (by omega) (by omega), obs]
          by_cases ho : 0 ≤ (D : Int) - 1 ∧ -((D : Int) - 1) ≤ k + 1 ∧ k + 1 ≤ (D : Int) - 1
          · rw [decide_eq_true ho, br_true]
            obtain ⟨d, hd⟩ : ∃ d, D = d + 1 := ⟨D - 1, by omega⟩
            have hgf := getB_ok K e1 d (k + 1) (hB d (by omega)) (by omega) (by omega) (by omega) (by omega)
            rw [show (D : Int) - 1 = (d : Int) by omega, hgf, obs]
            refine ⟨eqI (x + 1) (lv B d (k + 1)), rfl, fun hb => ⟨d, hd, by omega, by omega, ?_⟩, fun hb d' hd' _ _ => ?_⟩
            · rw [eqI_eq] at hb
              exact of_decide_eq_true hb
            · rw [eqI_eq] at hb
              have : d' = d := by omega
              subst this
              exact of_decide_eq_false hb
          · rw [decide_eq_false ho, br_false]
            exact ⟨false, rfl, fun h => (by cases h), fun _ d hd h1 h2 => absurd ⟨by omega, by omega, by omega⟩ ho⟩
        obtain ⟨b, u1, u2, u3⟩ := s1
        rw [u1, backwardlcs_j2_eq]
        cases b with
        | true =>
          obtain ⟨d, hd, q1, q2, q3⟩ := u2 rfl
          subst hd
          have bk' := bk.left (hV d rfl) (by omega) (by omega) (show N - x - 1 = bV B N d (-k - 1) by unfold bV; rw [show -(-k - 1) = k + 1 by omega, ← q3]; omega)
          rw [show -k - 1 = -(k + 1) by omega, show N - x - 1 = N - (x + 1) by omega] at bk'
          obtain ⟨h', r', L', g1, g2, g3, g4⟩ := ih d (k + 1) (x + 1) y h r L (k' + 2) (by omega) (by omega) (by omega) (by omega) hb (hc.weak (Int.le_refl _) (Int.le_refl _) (by omega) (by omega)) bk' (fun j hj => hB j (by omega)) (fun j hj => fun d' hd' => hV d rfl d' (by omega))
          refine ⟨h', r', L', ?_, g2, g3, by omega⟩
          rw [br_true, wD, wk', wx, show ((d + 1 : Nat) : Int) - 1 = (d : Int) by omega]
          exact g1
        | false =>
          rw [br_false]
          obtain ⟨hE, bk'⟩ := bk.diag hV (fun h => hz ⟨by omega, by omega⟩) (fun d hd g1 g2 h => u3 rfl d hd (by omega) (by omega) (by unfold bV at h; rw [show -(-k - 1) = k + 1 by omega] at h; omega)) (fun d hd g1 g2 h => t3 rfl d hd (by omega) (by omega) (by unfold bV at h; rw [show -(-k + 1) = k - 1 by omega] at h; omega))
          obtain ⟨c', r2, l', f1', f2', f3'⟩ := bk'.p.form
          have hE : E (N - 1 - (N - x - 1)) (M - 1 - (N - x - 1 - -k)) := hE
          rw [show N - 1 - (N - x - 1) = x by omega, show M - 1 - (N - x - 1 - -k) = y by omega] at hE
          rw [show N - x - 1 = N - (x + 1) by omega] at bk'
          obtain ⟨h1, r1, p1, p2⟩ := bl_j3 K e hK (k' + 1) hb (D : Int) k x y hyk (Ch.tiny hc (by omega) (by omega) (by omega) (by omega) (by omega)) (by omega) (by omega) (by omega) (by omega) (by omega) (by omega)
          obtain ⟨hc1, hs1⟩ := hc.snoc hE
          obtain ⟨h', r', L', g1, g2, g3, g4⟩ := ih D k (x + 1) (y + 1) h1 r1 _ (k' + 1) (by omega) (by omega) (by omega) hD p2 hc1 bk' hB hV
          exact ⟨h', r', L', by rw [p1]; exact g1, g2, g3, by rw [g4, hs1]; omega⟩
theorem backwardlcs_ok (hN0 : 0 ≤ N) (hM0 : 0 ≤ M) (hN2 : N ≤ 2000) (hM2 : M ≤ 2000) (D : Nat) (k : Int) (hD : D ≤ 1000) (h1 : -(D : Int) ≤ k) (h2 : k ≤ D) (h3 : ∃ c : Int, k = D - 2 * c) (hB : ∀ d, d ≤ D → B d ≠ none) (hV : Labs (Rev E N M) (bV B N) D) (hx : 0 ≤ lv B D k) (hy : 0 ≤ lv B D k - (k + (N - M))) (hK2 : 70000 ≤ K) :
    ∃ h' r L, backwardlcs K hs (.at g 0) (D : Int) k = some (h', r) ∧ Blt hs h' 154 TS2 r L ∧ Ch E L (lv B D k) (lv B D k - (k + (N - M))) N M ∧ 2 * dsum L = (N - lv B D k) + (M - (lv B D k - (k + (N - M)))) - D := by
  obtain ⟨K, rfl⟩ : ∃ m, K = m + 1 := ⟨K - 1, by omega⟩
  obtain ⟨c0, hc0⟩ := h3
  have bk := BK.top hV (k := -k) (by omega) (by omega) ⟨D - c0, by omega⟩
  have hb0 : bV B N D (-k) = N - lv B D k := by unfold bV; rw [Int.neg_neg]
  rw [hb0] at bk
  obtain ⟨c, ri, l, f1, f2, f3⟩ := bk.p.form
  rw [backwardlcs_eq, getB_ok K e D k (hB D (Nat.le_refl _)) hD h1 h2 (by omega), obs]
  obtain ⟨h', r', L', g1, g2, g3, g4⟩ := bl_loop K e (by omega) hN0 hM0 hN2 hM2 (lv B D k) (lv B D k - (k + (N - M))) hx hy 10000 D k (lv B D k) _ hs .nil [] K rfl (by omega) (by omega) hD (Blt.start e.free) ⟨Int.le_refl _, Int.le_refl _⟩ bk (fun d hd => hB d (by omega)) (fun d hd d' hd' => hV d' (by omega))
  refine ⟨h', r', L', g1, g2, g3, ?_⟩
  have : dsum [] = 0 := rfl
  omega
end
end Go.Proofs.Ytfglahmbnnkijaa.E
