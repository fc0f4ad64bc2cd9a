import Derived.Test.YtfglahmbnnkijaaLR
/- The two-sided search, whole, and the differences that it tells. -/
set_option linter.unusedVariables false
set_option linter.unusedSimpArgs false
namespace Go.Proofs.Ytfglahmbnnkijaa.E
open Go.Ev Go.Lcs
section
variable (K : Nat) {h0 : Hp} {g : Nat} {i : If} {lim N M : Int} {Q : Int → Int → Prop} (sq : SeqOk h0 i N M Q) (hN : 0 ≤ N) (hM : 0 ≤ M) (hN2 : N ≤ 1000) (hM2 : M ≤ 1000) (hK : 50000000 ≤ K) (hlim : lim = 50)
include sq hN hM hN2 hM2 hK hlim
section
variable {ρ : Nat → Option Nat} {h : Hp} {A B : Nat → Option (List Int)} (e : EG ρ h0 h g i A B lim N M (N - M)) (fl : FL (EM Q N M) A 50) (bl : BL Q N M B 50) (hmin : ∀ d, FP (EM Q N M) d N M → 100 ≤ d)
include e fl bl hmin
theorem ts_l3 {h1 : Hp} {r1 : Rf} {L1 : List Dg} {X Y : Int} (b1 : Blt h h1 154 TS2 r1 L1) (c1 : Ch (EM Q N M) L1 0 0 X Y) (hX : X ≤ N) (hY : Y ≤ M) : ∀ (n : Nat) (k x14 x20 : Int) (k' : Nat), 50 - k < 2 * n → 4 * n + 10 ≤ k' → -50 ≤ k → k ≤ 60 → (∃ c : Int, k = 50 - 2 * c) → -100000 ≤ x20 → x20 ≤ 33554432 →
    ((-50 ≤ x14 ∧ x14 ≤ 50 ∧ (∃ c : Int, x14 = 50 - 2 * c) ∧ 0 ≤ lv B 50 x14 ∧ 0 ≤ lv B 50 x14 - (x14 + (N - M))) ∨ (x20 = 33554432 ∧ ∀ q : Int, -50 ≤ q → q < k → q ≤ 50 → (∃ c : Int, q = 50 - 2 * c) → ¬ (0 ≤ lv B 50 q ∧ 0 ≤ lv B 50 q - (q + (N - M))))) →
    SRes h0 N M Q (twosided_l3 K k' (.at g 0) x14 r1 x20 k h1) := by
  have e1 := e.grow b1.1 b1.2.1
  have l3 := (EG.ld e1 3).1 rfl
  have l8 := (EG.ld e1 8).2.2.2.2.2.1 rfl
  have hE : Box (Rev (EM Q N M) N M) N M := (EM.box hN hM).rev
  have bdB : ∀ q : Int, -50 ≤ q → q ≤ 50 → (∃ c : Int, q = 50 - 2 * c) → -1000 ≤ lv B 50 q ∧ lv B 50 q ≤ 2000 ∧ -2000 ≤ lv B 50 q - (q + (N - M)) ∧ lv B 50 q - (q + (N - M)) ≤ 2000 := by
    intro q q1 q2 q3
    have := FR.bd hE (bl.at q q1 q2 q3)
    omega
  have ex : (0 ≤ lv B 50 50 ∧ 0 ≤ lv B 50 50 - (50 + (N - M))) ∨ (0 ≤ lv B 50 (-50) ∧ 0 ≤ lv B 50 (-50) - (-50 + (N - M))) := by
    have f1 := (bl.at 50 (by omega) (by omega) ⟨0, by omega⟩).1
    have f2 := (bl.at (-50) (by omega) (by omega) ⟨50, by omega⟩).1
    have := inside hE (fun d p => by
      have := FP.join (E := EM Q N M) p (FP.zero.cast rfl (by omega) (by omega))
      exact hmin d (this.cast (by omega) rfl rfl)) f1 (f2.cast rfl rfl (by omega))
    omega
  have fin : ∀ (k x14 x20 : Int) (k' : Nat), 50 < k → ((-50 ≤ x14 ∧ x14 ≤ 50 ∧ (∃ c : Int, x14 = 50 - 2 * c) ∧ 0 ≤ lv B 50 x14 ∧ 0 ≤ lv B 50 x14 - (x14 + (N - M))) ∨ (x20 = 33554432 ∧ ∀ q : Int, -50 ≤ q → q < k → q ≤ 50 → (∃ c : Int, q = 50 - 2 * c) → ¬ (0 ≤ lv B 50 q ∧ 0 ≤ lv B 50 q - (q + (N - M))))) → SRes h0 N M Q (twosided_l3 K (k' + 3) (.at g 0) x14 r1 x20 k h1) := by
    intro k x14 x20 k' hk inv
    rw [twosided_l3_eq]
    simp only [np, chk_t]
    rw [l3, obs, br_gt (by omega), twosided_j11_eq]
    simp only [np, chk_t]
    rw [l3, obs, hlim, Int.zero_sub, wrap_id (by omega) (by omega)]
    rcases inv with ⟨v1, v2, v3, v4⟩ | ⟨_, v⟩
    · rw [br_ge (by omega)]
      exact ts_j14 K sq hN hM hN2 hM2 hK hlim e fl bl hmin k' x14 v1 v2 v3 v4 b1 c1 hX hY
    · exfalso
      rcases ex with ex | ex
      · exact v 50 (by omega) (by omega) (by omega) ⟨0, by omega⟩ ex
      · exact v (-50) (by omega) (by omega) (by omega) ⟨50, by omega⟩ ex
  intro n
  induction n with
  | zero =>
    intro k x14 x20 k' hn hk' hk0 hk1 hpar hx1 hx2 inv
    obtain ⟨k', rfl⟩ : ∃ q, k' = q + 3 := ⟨k' - 3, by omega⟩
    exact fin k x14 x20 k' (by omega) inv
  | succ n ih =>
    intro k x14 x20 k' hn hk' hk0 hk1 hpar hx1 hx2 inv
    by_cases hc : k ≤ 50
    · obtain ⟨k', rfl⟩ : ∃ q, k' = q + 3 := ⟨k' - 3, by omega⟩
      have bdk := bdB k hk0 hc hpar
      obtain ⟨c, hpc⟩ := hpar
      have gb := getB_ok K e1 50 k (bl.2 50 (Nat.le_refl _)) (by omega) hk0 hc (by omega)
      have gb : getBackward K h1 (.at g 0) lim k = some (h1, lv B 50 k) := by rw [hlim]; exact gb
      have take : 0 ≤ lv B 50 k → 0 ≤ lv B 50 k - (k + (N - M)) → SRes h0 N M Q (twosided_j13 K (k' + 1) (.at g 0) x14 r1 x20 k (lv B 50 k) (lv B 50 k - (k + (N - M))) true h1) := by
        intro t1 t2
        rw [twosided_j13_eq, br_true, w1 (lv B 50 k + (lv B 50 k - (k + (N - M)))) (by omega) (by omega), w1 (k + 2) (by omega) (by omega)]
        exact ih (k + 2) k _ k' (by omega) (by omega) (by omega) (by omega) ⟨c - 1, by omega⟩ (by omega) (by omega) (.inl ⟨hk0, hc, ⟨c, hpc⟩, t1, t2⟩)
      have pass : (x20 = 33554432 → ¬ (0 ≤ lv B 50 k ∧ 0 ≤ lv B 50 k - (k + (N - M)))) → SRes h0 N M Q (twosided_j13 K (k' + 1) (.at g 0) x14 r1 x20 k (lv B 50 k) (lv B 50 k - (k + (N - M))) false h1) := by
        intro t
        rw [twosided_j13_eq, br_false, w1 (k + 2) (by omega) (by omega)]
        refine ih (k + 2) x14 x20 k' (by omega) (by omega) (by omega) (by omega) ⟨c - 1, by omega⟩ hx1 hx2 ?_
        rcases inv with v | ⟨v1, v⟩
        · exact .inl v
        · refine .inr ⟨v1, fun q q1 q2 q3 q4 => ?_⟩
          by_cases hq : q = k
          · rw [hq]; exact t v1
          · obtain ⟨c', hc'⟩ := q4
            exact v q q1 (by omega) q3 ⟨c', hc'⟩
      rw [twosided_l3_eq]
      simp only [np, chk_t]
      rw [l3, obs, br_le (by omega), twosided_j10_eq]
      simp only [np, chk_t]
      rw [l3, obs, gb, obs, l8, obs, w1 (k + (N - M)) (by omega) (by omega), w1 (lv B 50 k - (k + (N - M))) (by omega) (by omega), w1 (lv B 50 k + (lv B 50 k - (k + (N - M)))) (by omega) (by omega)]
      by_cases c2 : lv B 50 k + (lv B 50 k - (k + (N - M))) < x20
      · rw [br_lt c2]
        by_cases c3 : 0 ≤ lv B 50 k
        · rw [br_le c3, leI_eq]
          by_cases c4 : 0 ≤ lv B 50 k - (k + (N - M))
          · rw [decide_eq_true c4]
            exact take c3 c4
          · rw [decide_eq_false c4]
            exact pass fun _ h => c4 h.2
        · rw [br_gt (by omega)]
          exact pass fun _ h => c3 h.1
      · rw [br_ge (by omega)]
        exact pass fun h => by omega
    · obtain ⟨k', rfl⟩ : ∃ q, k' = q + 3 := ⟨k' - 3, by omega⟩
      exact fin k x14 x20 k' (by omega) inv
theorem ts_l1 : ∀ (n : Nat) (k x14 x15 : Int) (k' : Nat), 50 - k < 2 * n → 4 * n + 300 ≤ k' → -50 ≤ k → k ≤ 60 → (∃ c : Int, k = 50 - 2 * c) → -1 ≤ x15 → x15 ≤ 100000 →
    ((-50 ≤ x14 ∧ x14 ≤ 50 ∧ (∃ c : Int, x14 = 50 - 2 * c) ∧ lv A 50 x14 ≤ N ∧ lv A 50 x14 - x14 ≤ M) ∨ (x15 = -1 ∧ ∀ q : Int, -50 ≤ q → q < k → q ≤ 50 → (∃ c : Int, q = 50 - 2 * c) → ¬ (lv A 50 q ≤ N ∧ lv A 50 q - q ≤ M))) →
    SRes h0 N M Q (twosided_l1 K k' (.at g 0) x14 x15 k h) := by
  have l3 := (EG.ld e 3).1 rfl
  have l6 := (EG.ld e 6).2.2.2.1 rfl
  have l7 := (EG.ld e 7).2.2.2.2.1 rfl
  have hE : Box (EM Q N M) N M := EM.box hN hM
  have bdA : ∀ q : Int, -50 ≤ q → q ≤ 50 → (∃ c : Int, q = 50 - 2 * c) → 0 ≤ lv A 50 q ∧ lv A 50 q ≤ 2000 ∧ 0 ≤ lv A 50 q - q ∧ lv A 50 q - q ≤ 2000 := by
    intro q q1 q2 q3
    have := FR.bd hE (fl.1 50 (Nat.le_refl _) q q1 q2 q3)
    omega
  have ex : (lv A 50 (-50) ≤ N ∧ lv A 50 (-50) - -50 ≤ M) ∨ (lv A 50 50 ≤ N ∧ lv A 50 50 - 50 ≤ M) := by
    have f1 := (fl.1 50 (Nat.le_refl _) (-50) (by omega) (by omega) ⟨50, by omega⟩).1
    have f2 := (fl.1 50 (Nat.le_refl _) 50 (by omega) (by omega) ⟨0, by omega⟩).1
    have := inside hE hmin f1 f2
    omega
  have fin : ∀ (k x14 x15 : Int) (k' : Nat), 50 < k → 290 ≤ k' → ((-50 ≤ x14 ∧ x14 ≤ 50 ∧ (∃ c : Int, x14 = 50 - 2 * c) ∧ lv A 50 x14 ≤ N ∧ lv A 50 x14 - x14 ≤ M) ∨ (x15 = -1 ∧ ∀ q : Int, -50 ≤ q → q < k → q ≤ 50 → (∃ c : Int, q = 50 - 2 * c) → ¬ (lv A 50 q ≤ N ∧ lv A 50 q - q ≤ M))) → SRes h0 N M Q (twosided_l1 K (k' + 3) (.at g 0) x14 x15 k h) := by
    intro k x14 x15 k' hk hk' inv
    rw [twosided_l1_eq]
    simp only [np, chk_t]
    rw [l3, obs, br_gt (by omega), twosided_j4_eq]
    simp only [np, chk_t]
    rw [l3, obs, hlim, Int.zero_sub, wrap_id (by omega) (by omega)]
    rcases inv with ⟨v1, v2, v3, v4, v5⟩ | ⟨_, v⟩
    · rw [br_ge (by omega), twosided_j8_eq]
      simp only [np, chk_t]
      obtain ⟨h1, r1, L1, a1, a2, a3, a4⟩ := forwardlcs_ok K e (by omega) 50 x14 (by omega) v1 v2 v3 fl.2 fl.1 (by omega) (by omega) (by omega)
      have l3' := (EG.ld (e.grow a2.1 a2.2.1) 3).1 rfl
      rw [l3, obs, hlim]
      show SRes _ _ _ _ (Option.bind (forwardlcs K h (.at g 0) ((50 : Nat) : Int) x14) _)
      rw [a1, obs, l3', obs, hlim, Int.zero_sub, wrap_id (by omega) (by omega)]
      exact ts_l3 K sq hN hM hN2 hM2 hK hlim e fl bl hmin a2 a3 v4 v5 60 (-50) x14 33554432 k' (by omega) (by omega) (by omega) (by omega) ⟨50, by omega⟩ (by omega) (by omega) (.inr ⟨rfl, fun q q1 q2 => absurd q2 (by omega)⟩)
    · exfalso
      rcases ex with ex | ex
      · exact v (-50) (by omega) (by omega) (by omega) ⟨50, by omega⟩ ex
      · exact v 50 (by omega) (by omega) (by omega) ⟨0, by omega⟩ ex
  intro n
  induction n with
  | zero =>
    intro k x14 x15 k' hn hk' hk0 hk1 hpar hx1 hx2 inv
    obtain ⟨k', rfl⟩ : ∃ q, k' = q + 3 := ⟨k' - 3, by omega⟩
    exact fin k x14 x15 k' (by omega) (by omega) inv
  | succ n ih =>
    intro k x14 x15 k' hn hk' hk0 hk1 hpar hx1 hx2 inv
    by_cases hc : k ≤ 50
    · obtain ⟨k', rfl⟩ : ∃ q, k' = q + 3 := ⟨k' - 3, by omega⟩
      have bdk := bdA k hk0 hc hpar
      obtain ⟨c, hpc⟩ := hpar
      have ga := getF_ok K e 50 k (fl.2 50 (Nat.le_refl _)) (by omega) hk0 hc (by omega)
      have ga : getForward K h (.at g 0) lim k = some (h, lv A 50 k) := by rw [hlim]; exact ga
      have take : lv A 50 k ≤ N → lv A 50 k - k ≤ M → SRes h0 N M Q (twosided_j7 K (k' + 1) (.at g 0) x14 x15 k (lv A 50 k) (lv A 50 k - k) true h) := by
        intro t1 t2
        rw [twosided_j7_eq, br_true, w1 (lv A 50 k + (lv A 50 k - k)) (by omega) (by omega), w1 (k + 2) (by omega) (by omega)]
        exact ih (k + 2) k _ k' (by omega) (by omega) (by omega) (by omega) ⟨c - 1, by omega⟩ (by omega) (by omega) (.inl ⟨hk0, hc, ⟨c, hpc⟩, t1, t2⟩)
      have pass : (x15 = -1 → ¬ (lv A 50 k ≤ N ∧ lv A 50 k - k ≤ M)) → SRes h0 N M Q (twosided_j7 K (k' + 1) (.at g 0) x14 x15 k (lv A 50 k) (lv A 50 k - k) false h) := by
        intro t
        rw [twosided_j7_eq, br_false, w1 (k + 2) (by omega) (by omega)]
        refine ih (k + 2) x14 x15 k' (by omega) (by omega) (by omega) (by omega) ⟨c - 1, by omega⟩ hx1 hx2 ?_
        rcases inv with v | ⟨v1, v⟩
        · exact .inl v
        · refine .inr ⟨v1, fun q q1 q2 q3 q4 => ?_⟩
          by_cases hq : q = k
          · rw [hq]; exact t v1
          · obtain ⟨c', hc'⟩ := q4
            exact v q q1 (by omega) q3 ⟨c', hc'⟩
      rw [twosided_l1_eq]
      simp only [np, chk_t]
      rw [l3, obs, br_le (by omega), twosided_j3_eq]
      simp only [np, chk_t]
      rw [l3, obs, ga, obs, w1 (lv A 50 k - k) (by omega) (by omega), w1 (lv A 50 k + (lv A 50 k - k)) (by omega) (by omega)]
      by_cases c2 : x15 < lv A 50 k + (lv A 50 k - k)
      · rw [br_lt c2, l6, obs]
        by_cases c3 : lv A 50 k ≤ N
        · rw [br_le c3, l7, obs, leI_eq]
          by_cases c4 : lv A 50 k - k ≤ M
          · rw [decide_eq_true c4]
            exact take c3 c4
          · rw [decide_eq_false c4]
            exact pass fun _ h => c4 h.2
        · rw [br_gt (by omega)]
          exact pass fun _ h => c3 h.1
      · rw [br_ge (by omega)]
        exact pass fun h => by omega
    · obtain ⟨k', rfl⟩ : ∃ q, k' = q + 3 := ⟨k' - 3, by omega⟩
      exact fin k x14 x15 k' (by omega) (by omega) inv
end
theorem SRes.bind {o : Option (Hp × Rf)} (h : SRes h0 N M Q o) : SRes h0 N M Q (Option.bind o fun r1 => some ((r1).1, (r1).2)) := by
  have _u := And.intro sq (And.intro hN (And.intro hM (And.intro hN2 (And.intro hM2 (And.intro hK hlim)))))
  obtain ⟨h', r, R, h1, h2⟩ := h
  rw [h1, obs]
  exact ⟨h', r, R, rfl, h2⟩
theorem ts_round (D : Nat) (hD : D + 1 ≤ 50) {ρ : Nat → Option Nat} {h : Hp} {A B : Nat → Option (List Int)} (e : EG ρ h0 h g i A B lim N M (N - M)) (fl : FL (EM Q N M) A D) (bl : BL Q N M B D) (hmin : ∀ d, FP (EM Q N M) d N M → 2 * D ≤ d) (m : Nat)
    (cont : ∀ (ρ : Nat → Option Nat) (h : Hp) (A B : Nat → Option (List Int)) (k' : Nat), m ≤ k' → EG ρ h0 h g i A B lim N M (N - M) → FL (EM Q N M) A (D + 1) → BL Q N M B (D + 1) → (∀ d, FP (EM Q N M) d N M → 2 * (D + 1) ≤ d) → SRes h0 N M Q (twosided_l0 K k' (.at g 0) 50 ((D : Int) + 1) h)) (k' : Nat) (hk' : 1000 + m ≤ k') :
    SRes h0 N M Q (twosided_l0 K k' (.at g 0) 50 (D : Int) h) := by
  obtain ⟨k', rfl⟩ : ∃ q, k' = q + 3 := ⟨k' - 3, by omega⟩
  rw [twosided_l0_eq, br_lt (by omega), twosided_j0_eq]
  rcases done_ok K sq hN hM hN2 hM2 hK hlim e D D (by omega) (by omega) fl bl (fun d p => by have := hmin d p; omega) with ⟨r, d1, d2⟩ | ⟨r, d1, d2⟩
  · rw [d1, obs]
    show SRes _ _ _ _ (br true _ _)
    rw [br_true]
    exact SRes.bind K sq hN hM hN2 hM2 hK hlim d2
  rw [d1, obs]
  show SRes _ _ _ _ (br false _ (twosided_j2 K (k' + 1) (.at g 0) (D : Int) 50 (D : Int) h))
  obtain ⟨h1, ρ1, A1, p1, p2, p3, p4, p5, p6, p7⟩ := lowF K e sq (Int.le_refl _) (Int.le_refl _) hN hM hN2 hM2 (by omega) D hD fl
  have fl1 : FL (EM Q N M) A1 D := fl.same fun d hd => p5 d (by omega)
  obtain ⟨h2, ρ2, A2, q1, q2, q3, q4, q5, q6, q7⟩ := highF K p4 sq (Int.le_refl _) (Int.le_refl _) hN hM hN2 hM2 (by omega) D hD fl1
  have fl2 : FL (EM Q N M) A2 D := fl1.same fun d hd => q5 d (by omega)
  rw [br_false, twosided_j2_eq, wneg D (by omega), wsuc D (by omega), wneg (D + 1) (by omega), p1, obs, p2, obs, q1, obs]
  show SRes _ _ _ _ (Option.bind (setForward K h1 (.at g 0) ((D + 1 : Nat) : Int) ((D + 1 : Nat) : Int) (IntKind.wrap IntKind.i64 (lv A1 D (D : Int) + 1))) _)
  rw [q2, obs, wneg1 D (by omega)]
  refine ts_l2 K sq hN hM hN2 hM2 hK hlim D hD B h (SRes h0 N M Q) (500 + m) (fun ρ3 h3 A3 k3 hk3 e3 fl3 => ?_) 60 (-(D : Int) + 1) ρ2 h2 A2 k' (by omega) (by omega) (by omega) ⟨D, by omega⟩ q4 fl2 q6 (fun q t1 t2 t3 hq => q7 _ p7 q t1 t2 t3 ?_)
  · obtain ⟨k3, rfl⟩ : ∃ q, k3 = q + 2 := ⟨k3 - 2, by omega⟩
    rw [twosided_j6_eq, wsuc D (by omega)]
    rcases done_ok K sq hN hM hN2 hM2 hK hlim e3 (D + 1) D (by omega) (by omega) fl3 bl (fun d p => by have := d2 d p; omega) with ⟨r, d3, d4⟩ | ⟨r, d3, d4⟩
    · rw [d3, obs]
      show SRes _ _ _ _ (br true _ _)
      rw [br_true]
      exact SRes.bind K sq hN hM hN2 hM2 hK hlim d4
    rw [d3, obs]
    show SRes _ _ _ _ (br false _ (twosided_j9 K (k3 + 1) (.at g 0) (D : Int) 50 (D : Int) h3))
    obtain ⟨h4, ρ4, B4, s1, s2, s3, s4, s5, s6, s7⟩ := lowB K e3 sq hN hM hN2 hM2 (by omega) D hD bl
    have bl4 : BL Q N M B4 D := bl.same fun d hd => s5 d (by omega)
    obtain ⟨h5, ρ5, B5, t1, t2, t3, t4, t5, t6, t7⟩ := highB K s4 sq hN hM hN2 hM2 (by omega) D hD bl4
    have bl5 : BL Q N M B5 D := bl4.same fun d hd => t5 d (by omega)
    rw [br_false, twosided_j9_eq, wneg D (by omega), wsuc D (by omega), wneg (D + 1) (by omega), s1, obs]
    show SRes _ _ _ _ (Option.bind (setBackward K h3 (.at g 0) ((D + 1 : Nat) : Int) (-((D + 1 : Nat) : Int)) (IntKind.wrap IntKind.i64 (lv B D (-(D : Int)) - 1))) _)
    rw [s2, obs, t1, obs]
    show SRes _ _ _ _ (Option.bind (setBackward K h4 (.at g 0) ((D + 1 : Nat) : Int) ((D + 1 : Nat) : Int) (lv B4 D (D : Int))) _)
    rw [t2, obs, wneg1 D (by omega)]
    refine ts_l4 K sq hN hM hN2 hM2 hK hlim D hD A3 (SRes h0 N M Q) m (fun ρ6 h6 B6 k6 hk6 e6 bl6 => cont ρ6 h6 A3 B6 k6 hk6 e6 fl3 bl6 (fun d p => by have := d4 d p; omega)) 60 (-(D : Int) + 1) ρ5 h5 B5 k3 (by omega) (by omega) (by omega) ⟨D, by omega⟩ t4 bl5 t6 (fun q u1 u2 u3 hq => t7 _ s7 q u1 u2 u3 ?_)
    obtain ⟨c', hc'⟩ := u3
    show q = -((D + 1 : Nat) : Int) ∨ q = ((D + 1 : Nat) : Int)
    omega
  · obtain ⟨c', hc'⟩ := t3
    show q = -((D + 1 : Nat) : Int) ∨ q = ((D + 1 : Nat) : Int)
    omega
theorem ts_l0 : ∀ (n D : Nat) (ρ : Nat → Option Nat) (h : Hp) (A B : Nat → Option (List Int)) (k' : Nat), D + n = 50 → 2000 * (n + 1) ≤ k' → EG ρ h0 h g i A B lim N M (N - M) → FL (EM Q N M) A D → BL Q N M B D → (∀ d, FP (EM Q N M) d N M → 2 * D ≤ d) → SRes h0 N M Q (twosided_l0 K k' (.at g 0) 50 (D : Int) h) := by
  intro n
  induction n with
  | zero =>
    intro D ρ h A B k' hD hk' e fl bl hmin
    have hD : D = 50 := by omega
    subst hD
    obtain ⟨k', rfl⟩ : ∃ q, k' = q + 2 := ⟨k' - 2, by omega⟩
    have l3 := (EG.ld e 3).1 rfl
    rw [twosided_l0_eq, br_ge (by omega), twosided_j1_eq]
    simp only [np, chk_t]
    rw [l3, obs, obs, hlim, Int.zero_sub, wrap_id (x := -50) (by omega) (by omega), wrap_id (by omega) (by omega)]
    exact ts_l1 K sq hN hM hN2 hM2 hK hlim e fl bl hmin 60 (-50) (-50 - 1) (-1) k' (by omega) (by omega) (by omega) (by omega) ⟨50, by omega⟩ (by omega) (by omega) (.inr ⟨rfl, fun q q1 q2 => absurd q2 (by omega)⟩)
  | succ n ih =>
    intro D ρ h A B k' hD hk' e fl bl hmin
    obtain ⟨q, hq⟩ : ∃ q, q = 2000 * (n + 1) := ⟨_, rfl⟩
    have h1 : D + 1 ≤ 50 := by omega
    have h2 : 1000 + q ≤ k' := by omega
    refine ts_round K sq hN hM hN2 hM2 hK hlim D h1 e fl bl hmin q (fun ρ h A B k' hk e fl bl hmin => ?_) k' h2
    rw [hq] at hk
    have := ih (D + 1) ρ h A B k' (by omega) hk e fl bl hmin
    rw [show ((D + 1 : Nat) : Int) = (D : Int) + 1 by omega] at this
    exact this
theorem twosided_ok {ρ : Nat → Option Nat} {h : Hp} {A B : Nat → Option (List Int)} (e : EG ρ h0 h g i A B lim N M (N - M)) (hK2 : 60000000 ≤ K) : SRes h0 N M Q (twosided K h (.at g 0)) := by
  obtain ⟨K, rfl⟩ : ∃ q, K = q + 1 := ⟨K - 1, by omega⟩
  have l4 := (EG.ld e 4).2.1 rfl
  obtain ⟨h1, ρ1, A1, p1, p2, p3, p4⟩ := zeroF K e sq (Int.le_refl _) (Int.le_refl _) hN hM hN2 hM2 (by omega)
  have l6 := (EG.ld p3 6).2.2.2.1 rfl
  obtain ⟨h2, ρ2, B2, q1, q2, q3, q4⟩ := zeroB K p3 sq hN hM hN2 hM2 (by omega)
  have l3 := (EG.ld q3 3).1 rfl
  rw [twosided_eq]
  simp only [np, chk_t]
  rw [l4, obs, p1, obs, l6, obs, q1, obs, l3, obs]
  have hx : twosided_l0 K K (.at g 0) lim (0 : Int) h2 = twosided_l0 K K (.at g 0) 50 ((0 : Nat) : Int) h2 := by rw [hlim]; rfl
  rw [hx]
  have h50 : 0 + 50 = 50 := rfl
  have hk : 2000 * (50 + 1) ≤ K := by omega
  exact ts_l0 K sq hN hM hN2 hM2 (by omega) hlim 50 0 ρ2 h2 A1 B2 K h50 hk q3 p4 q4 (fun d _ => by omega)
end
end Go.Proofs.Ytfglahmbnnkijaa.E
