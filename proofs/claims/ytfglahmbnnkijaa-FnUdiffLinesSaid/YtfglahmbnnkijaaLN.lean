import Derived.Test.YtfglahmbnnkijaaLM
/- Where forward and backward labels meet; the forward search alone; lists joined. -/
set_option linter.unusedVariables false
set_option linter.unusedSimpArgs false
namespace Go.Lcs
theorem BK.top2 {E : Int → Int → Prop} {V : Nat → Int → Int} {D : Nat} {k : Int} (hF : FR E D k (V D k)) (hV : ∀ e, D = e + 1 → Labs E V e) (h3 : ∃ c : Int, k = D - 2 * c) : BK E V D k (V D k) := by
  obtain ⟨c, hc⟩ := h3
  refine ⟨hF.1, fun e he g1 g2 => ?_, fun e he g1 g2 => ?_⟩
  · have := (hV e he e (Nat.le_refl _) (k - 1) g1 g2 ⟨c, by omega⟩).1
    exact hF.2 _ (this.right.cast (by omega) rfl (by omega))
  · have := (hV e he e (Nat.le_refl _) (k + 1) g1 g2 ⟨c - 1, by omega⟩).1
    exact hF.2 _ (this.down.cast (by omega) rfl (by omega))
end Go.Lcs
namespace Go.Proofs.Ytfglahmbnnkijaa.E
open Go.Ev Go.Lcs
theorem tmod2 (x : Int) : Int.tmod x 2 = 0 ↔ ∃ c : Int, x = 2 * c := by
  constructor
  · intro h
    obtain ⟨c, hc⟩ := Int.dvd_of_tmod_eq_zero h
    exact ⟨c, hc⟩
  · rintro ⟨c, rfl⟩
    exact Int.tmod_eq_zero_of_dvd ⟨c, rfl⟩
/-- A diagonal that both sides have. -/
def InR (df db : Nat) (dl k : Int) : Prop := -(df : Int) ≤ k ∧ k ≤ df ∧ -(db : Int) ≤ k - dl ∧ k - dl ≤ db ∧ (∃ c : Int, k = df - 2 * c) ∧ ∃ c : Int, k - dl = db - 2 * c
section
variable (K : Nat) {ρ : Nat → Option Nat} {h0 h : Hp} {g : Nat} {i : If} {A B : Nat → Option (List Int)} {lim N M : Int} (e : EG ρ h0 h g i A B lim N M (N - M)) (hN : 0 ≤ N) (hM : 0 ≤ M) (hN2 : N ≤ 1000) (hM2 : M ≤ 1000) (hK : 10000 ≤ K) (df db : Nat) (hdf : df ≤ 50) (hdb : db ≤ 50) (hA : A df ≠ none) (hB : B db ≠ none)
  (bA : ∀ k, InR df db (N - M) k → 0 ≤ lv A df k ∧ 0 ≤ lv A df k - k ∧ lv A df k ≤ 5000) (bB : ∀ k, InR df db (N - M) k → lv B db (k - (N - M)) ≤ N ∧ lv B db (k - (N - M)) - k ≤ M ∧ -5000 ≤ lv B db (k - (N - M)))
include e hN hM hN2 hM2 hK hdf hdb hA hB bA bB
theorem td_l1 (kmax k0 : Int) (hk0 : InR df db (N - M) k0) (hov : lv B db (k0 - (N - M)) ≤ lv A df k0) (hmax : kmax ≤ df ∧ kmax ≤ db + (N - M)) : ∀ (n : Nat) (l : Int) (k' : Nat), kmax - l < 2 * n → 4 * n + 4 ≤ k' → (l ≤ kmax → InR df db (N - M) l) → -200 ≤ l →
    ∃ r, twoDone_l1 K k' (.at g 0) (df : Int) (db : Int) kmax k0 l h = some (h, (r, true)) ∧ InR df db (N - M) r ∧ lv B db (r - (N - M)) ≤ lv A df r := by
  intro n
  induction n with
  | zero =>
    intro l k' hn hk hl hl0
    obtain ⟨k', rfl⟩ : ∃ q, k' = q + 1 := ⟨k' - 1, by omega⟩
    exact ⟨k0, by rw [twoDone_l1_eq, br_gt (by omega)], hk0, hov⟩
  | succ n ih =>
    intro l k' hn hk hl hl0
    obtain ⟨k', rfl⟩ : ∃ q, k' = q + 4 := ⟨k' - 4, by omega⟩
    by_cases hc : l ≤ kmax
    · have hin := hl hc
      obtain ⟨a1, a2, a3⟩ := bA l hin
      obtain ⟨b1, b2, b3⟩ := bB l hin
      obtain ⟨i1, i2, i3, i4, i5, i6⟩ := hin
      obtain ⟨c, hc5⟩ := i5
      obtain ⟨c', hc6⟩ := i6
      have l6 := (EG.ld e 6).2.2.2.1 rfl
      have l7 := (EG.ld e 7).2.2.2.2.1 rfl
      have l8 := (EG.ld e 8).2.2.2.2.2.1 rfl
      have w1 : IntKind.wrap IntKind.i64 (l - (N - M)) = l - (N - M) := wrap_id (by omega) (by omega)
      have yes : lv B db (l - (N - M)) ≤ lv A df l → ∃ r, twoDone_j3 K (k' + 2) (.at g 0) (df : Int) (db : Int) kmax k0 l true h = some (h, (r, true)) ∧ InR df db (N - M) r ∧ lv B db (r - (N - M)) ≤ lv A df r := by
        intro ho
        exact ⟨l, by rw [twoDone_j3_eq, br_true], ⟨i1, i2, i3, i4, ⟨c, hc5⟩, ⟨c', hc6⟩⟩, ho⟩
      have nxt : ∃ r, twoDone_j3 K (k' + 2) (.at g 0) (df : Int) (db : Int) kmax k0 l false h = some (h, (r, true)) ∧ InR df db (N - M) r ∧ lv B db (r - (N - M)) ≤ lv A df r := by
        rw [twoDone_j3_eq, br_false, wrap_id (by omega) (by omega)]
        exact ih (l + 2) (k' + 1) (by omega) (by omega) (fun hq => ⟨by omega, by omega, by omega, by omega, ⟨c - 1, by omega⟩, ⟨c' - 1, by omega⟩⟩) (by omega)
      rw [twoDone_l1_eq, br_le hc, twoDone_j2_eq]
      simp only [np, chk_t]
      rw [get1_ok K e df l hA (by omega) i1 i2 (by omega), obs, l8, obs, w1, get2_ok K e db (l - (N - M)) hB (by omega) i3 i4 (by omega), obs]
      by_cases q1 : lv A df l = lv B db (l - (N - M))
      · rw [br_eq q1]
        exact yes (by omega)
      · rw [br_ne q1]
        by_cases q2 : lv B db (l - (N - M)) = 0
        · rw [br_eq q2]
          exact yes (by omega)
        · rw [br_ne q2, wrap_id (by omega) (by omega)]
          by_cases q3 : lv B db (l - (N - M)) - l = 0
          · rw [br_eq q3]
            exact yes (by omega)
          · rw [br_ne q3, l7, obs, wrap_id (by omega) (by omega)]
            by_cases q4 : lv A df l - l = M
            · rw [br_eq q4]
              exact yes (by omega)
            · rw [br_ne q4, l6, obs, eqI_eq]
              by_cases q5 : lv A df l = N
              · rw [decide_eq_true q5]
                exact yes (by omega)
              · rw [decide_eq_false q5]
                exact nxt
    · exact ⟨k0, by rw [twoDone_l1_eq, br_gt (by omega)], hk0, hov⟩
theorem td_l0 (kmax : Int) (hmax : kmax ≤ df ∧ kmax ≤ db + (N - M)) : ∀ (n : Nat) (k : Int) (k' : Nat), kmax - k < 2 * n → 1000 + 4 * n + 4 ≤ k' → (k ≤ kmax → InR df db (N - M) k) → -200 ≤ k → n ≤ 200 →
    ∃ r b, twoDone_l0 K k' (.at g 0) (df : Int) (db : Int) kmax k h = some (h, (r, b)) ∧ (b = true → InR df db (N - M) r ∧ lv B db (r - (N - M)) ≤ lv A df r) ∧ (b = false → ∀ j, k ≤ j → j ≤ kmax → (∃ c : Int, j = k + 2 * c) → lv A df j < lv B db (j - (N - M))) := by
  intro n
  induction n with
  | zero =>
    intro k k' hn hk hl hl0 hn2
    obtain ⟨k', rfl⟩ : ∃ q, k' = q + 1 := ⟨k' - 1, by omega⟩
    exact ⟨0, false, by rw [twoDone_l0_eq, br_gt (by omega)], fun h => (by cases h), fun _ j h1 h2 => by omega⟩
  | succ n ih =>
    intro k k' hn hk hl hl0 hn2
    obtain ⟨k', rfl⟩ : ∃ q, k' = q + 2 := ⟨k' - 2, by omega⟩
    by_cases hc : k ≤ kmax
    · have hin := hl hc
      have hin' := hin
      obtain ⟨i1, i2, i3, i4, i5, i6⟩ := hin
      obtain ⟨c, hc5⟩ := i5
      obtain ⟨c', hc6⟩ := i6
      have l8 := (EG.ld e 8).2.2.2.2.2.1 rfl
      have w1 : IntKind.wrap IntKind.i64 (k - (N - M)) = k - (N - M) := wrap_id (by omega) (by omega)
      rw [twoDone_l0_eq, br_le hc, twoDone_j1_eq]
      simp only [np, chk_t]
      rw [get1_ok K e df k hA (by omega) i1 i2 (by omega), obs, l8, obs, w1, get2_ok K e db (k - (N - M)) hB (by omega) i3 i4 (by omega), obs]
      by_cases q1 : lv B db (k - (N - M)) ≤ lv A df k
      · rw [br_le q1]
        obtain ⟨r, p1, p2, p3⟩ := td_l1 K e hN hM hN2 hM2 hK df db hdf hdb hA hB bA bB kmax k hin' q1 hmax 200 k k' (by omega) (by omega) (fun _ => hin') hl0
        exact ⟨r, true, p1, fun _ => ⟨p2, p3⟩, fun h => (by cases h)⟩
      · rw [br_gt (by omega), wrap_id (by omega) (by omega)]
        obtain ⟨r, b, p1, p2, p3⟩ := ih (k + 2) k' (by omega) (by omega) (fun hq => ⟨by omega, by omega, by omega, by omega, ⟨c - 1, by omega⟩, ⟨c' - 1, by omega⟩⟩) (by omega) (by omega)
        refine ⟨r, b, p1, p2, fun hb j h1 h2 h3 => ?_⟩
        obtain ⟨c3, h3⟩ := h3
        by_cases hj : j = k
        · rw [hj]; omega
        · exact p3 hb j (by omega) h2 ⟨c3 - 1, by omega⟩
    · exact ⟨0, false, by rw [twoDone_l0_eq, br_gt (by omega)], fun h => (by cases h), fun _ j h1 h2 => by omega⟩
theorem twoDone_ok (hK2 : 20000 ≤ K) : ∃ r b, twoDone K h (.at g 0) (df : Int) (db : Int) = some (h, (r, b)) ∧ (b = true → InR df db (N - M) r ∧ lv B db (r - (N - M)) ≤ lv A df r) ∧ (b = false → ∀ j, InR df db (N - M) j → lv A df j < lv B db (j - (N - M))) := by
  obtain ⟨K, rfl⟩ : ∃ q, K = q + 2 := ⟨K - 2, by omega⟩
  have l8 := (EG.ld e 8).2.2.2.2.2.1 rfl
  rw [twoDone_eq]
  simp only [np, chk_t]
  rw [l8, obs, chk_neq (by omega), wrap_id (x := (df : Int) + db) (by omega) (by omega), wrap_id (x := (df : Int) + db + (N - M)) (by omega) (by omega), br_not]
  by_cases hp : Int.tmod ((df : Int) + db + (N - M)) 2 = 0
  · obtain ⟨c, hc⟩ := (tmod2 _).1 hp
    rw [br_eq hp, twoDone_j0_eq]
    simp only [np, chk_t]
    rw [l8, obs, obs, Int.zero_sub, Int.zero_sub, wrap_id (x := (db : Int) + (N - M)) (by omega) (by omega), wrap_id (x := -(df : Int)) (by omega) (by omega), wrap_id (x := -(db : Int)) (by omega) (by omega), wrap_id (x := -(db : Int) + (N - M)) (by omega) (by omega)]
    have c1 : cond (ltI ((db : Int) + (N - M)) (df : Int)) ((db : Int) + (N - M)) (df : Int) = min (df : Int) ((db : Int) + (N - M)) := by
      rw [ltI_eq]
      by_cases q : (db : Int) + (N - M) < (df : Int)
      · rw [decide_eq_true q, cond_true]; omega
      · rw [decide_eq_false q, cond_false]; omega
    have c2 : cond (ltI (-(df : Int)) (-(db : Int) + (N - M))) (-(db : Int) + (N - M)) (-(df : Int)) = max (-(df : Int)) (-(db : Int) + (N - M)) := by
      rw [ltI_eq]
      by_cases q : -(df : Int) < -(db : Int) + (N - M)
      · rw [decide_eq_true q, cond_true]; omega
      · rw [decide_eq_false q, cond_false]; omega
    have hin : max (-(df : Int)) (-(db : Int) + (N - M)) ≤ min (df : Int) ((db : Int) + (N - M)) → InR df db (N - M) (max (-(df : Int)) (-(db : Int) + (N - M))) := by
      intro hq
      refine ⟨by omega, by omega, by omega, by omega, ?_, ?_⟩
      · by_cases hq : -(df : Int) ≤ -(db : Int) + (N - M)
        · exact ⟨df + db - c, by omega⟩
        · exact ⟨df, by omega⟩
      · by_cases hq : -(df : Int) ≤ -(db : Int) + (N - M)
        · exact ⟨db, by omega⟩
        · exact ⟨c, by omega⟩
    rw [c1, c2]
    obtain ⟨r, b, p1, p2, p3⟩ := td_l0 (K + 1) e hN hM hN2 hM2 (by omega) df db hdf hdb hA hB bA bB (min (df : Int) ((db : Int) + (N - M))) (by omega) 200 (max (-(df : Int)) (-(db : Int) + (N - M))) K (by omega) (by omega) hin (by omega) (by omega)
    refine ⟨r, b, p1, p2, fun hb j hj => ?_⟩
    obtain ⟨j1, j2, j3, j4, ⟨d, hd⟩, ⟨d', hd'⟩⟩ := hj
    by_cases hq : -(df : Int) ≤ -(db : Int) + (N - M)
    · exact p3 hb j (by omega) (by omega) ⟨db - d', by omega⟩
    · exact p3 hb j (by omega) (by omega) ⟨df - d, by omega⟩
  · refine ⟨0, false, by rw [br_ne hp], fun h => (by cases h), fun _ j hj => ?_⟩
    obtain ⟨j1, j2, j3, j4, ⟨d, hd⟩, ⟨d', hd'⟩⟩ := hj
    exact absurd ((tmod2 _).2 ⟨df - d + d', by omega⟩) hp
end
/-! ### the forward search alone -/
/-- A list of diagonals that is not the graph's. -/
def DL (ρ : Nat → Option Nat) (hs h : Hp) (r : Rf) (L : List Dg) : Prop := (L = [] ∧ r = .nil) ∨ (L ≠ [] ∧ ∃ n, hs.nx ≤ n ∧ n < h.nx ∧ ρ n = none ∧ r = .at n 0 L.length ∧ HO h 154 TS2 n L)
section
variable (K : Nat) {ρ : Nat → Option Nat} {h0 h : Hp} {g : Nat} {i : If} {A B : Nat → Option (List Int)} {lim ux uy dl : Int} (e : EG ρ h0 h g i A B lim ux uy dl) {Q : Int → Int → Prop} (hx0 : 0 ≤ ux) (hy0 : 0 ≤ uy) (hx2 : ux ≤ 1000) (hy2 : uy ≤ 1000) (hK : 100000 ≤ K)
include e hx0 hy0 hx2 hy2 hK
theorem forwardlcs_ok2 (D : Nat) (k : Int) (hD : D ≤ 1000) (h1 : -(D : Int) ≤ k) (h2 : k ≤ D) (h3 : ∃ c : Int, k = D - 2 * c) (hA : ∀ d, d ≤ D → A d ≠ none) (hF : FR (EM Q ux uy) D k (lv A D k)) (hV : ∀ d, D = d + 1 → Labs (EM Q ux uy) (lv A) d) :
    ∃ h' r L, forwardlcs K h (.at g 0) (D : Int) k = some (h', r) ∧ Blt h h' 154 TS2 r L ∧ Ch (EM Q ux uy) L 0 0 (lv A D k) (lv A D k - k) ∧ 2 * dsum L = lv A D k + (lv A D k - k) - D := by
  obtain ⟨K, rfl⟩ : ∃ m, K = m + 1 := ⟨K - 1, by omega⟩
  have bd := FR.bd (EM.box hx0 hy0) hF
  have bk := BK.top2 hF hV h3
  rw [forwardlcs_eq, getF_ok K e D k (hA D (Nat.le_refl _)) hD h1 h2 (by omega), obs]
  obtain ⟨h', r', L', g1, g2, g3, g4⟩ := fl_loop K e (E := EM Q ux uy) (by omega) (lv A D k) (lv A D k - k) (by omega) (by omega) 10000 D k (lv A D k) h .nil [] K (by omega) (by omega) hD (Blt.start e.free) ⟨Int.le_refl _, Int.le_refl _⟩ bk (fun d hd => hA d (by omega)) hV
  refine ⟨h', r', L', g1, g2, g3, ?_⟩
  have : dsum [] = 0 := rfl
  omega
theorem fdone_no (D : Nat) (k : Int) (hD : D ≤ 1000) (h1 : -(D : Int) ≤ k) (h2 : k ≤ D) (hA : A D ≠ none) (hb : -5000 ≤ lv A D k ∧ lv A D k ≤ 5000) (hn : ¬ (lv A D k = ux ∧ lv A D k - k = uy)) : fdone K h (.at g 0) (D : Int) k = some (h, (false, .nil)) := by
  have _u0 := hy0
  have _u1 := hy2
  obtain ⟨K, rfl⟩ : ∃ q, K = q + 2 := ⟨K - 2, by omega⟩
  have l6 := (EG.ld e 6).2.2.2.1 rfl
  have l7 := (EG.ld e 7).2.2.2.2.1 rfl
  rw [fdone_eq]
  simp only [np, chk_t]
  rw [get1_ok (K + 1) e D k hA hD h1 h2 (by omega), obs, l6, obs]
  by_cases c1 : lv A D k = ux
  · rw [br_eq c1, l7, obs, wrap_id (by omega) (by omega), eqI_eq, decide_eq_false (fun h => hn ⟨c1, h⟩), fdone_j0_eq, br_false]
  · rw [br_ne c1, fdone_j0_eq, br_false]
theorem fdone_yes (D : Nat) (k : Int) (hD : D ≤ 1000) (h1 : -(D : Int) ≤ k) (h2 : k ≤ D) (h3 : ∃ c : Int, k = D - 2 * c) (hA : ∀ d, d ≤ D → A d ≠ none) (hF : FR (EM Q ux uy) D k (lv A D k)) (hV : ∀ d, D = d + 1 → Labs (EM Q ux uy) (lv A) d) (hy : lv A D k = ux ∧ lv A D k - k = uy) (hK2 : 200000 ≤ K) :
    ∃ h' r L, fdone K h (.at g 0) (D : Int) k = some (h', (true, r)) ∧ Blt h h' 154 TS2 r L ∧ Ch (EM Q ux uy) L 0 0 ux uy ∧ 2 * dsum L = ux + uy - D := by
  obtain ⟨K, rfl⟩ : ∃ q, K = q + 2 := ⟨K - 2, by omega⟩
  have l6 := (EG.ld e 6).2.2.2.1 rfl
  have l7 := (EG.ld e 7).2.2.2.2.1 rfl
  obtain ⟨h', r, L, a1, a2, a3, a4⟩ := forwardlcs_ok2 (K + 1) e (Q := Q) hx0 hy0 hx2 hy2 (by omega) D k hD h1 h2 h3 hA hF hV
  rw [hy.2, hy.1] at a3 a4
  refine ⟨h', r, L, ?_, a2, a3, a4⟩
  rw [fdone_eq]
  simp only [np, chk_t]
  rw [get1_ok (K + 1) e D k (hA D (Nat.le_refl _)) hD h1 h2 (by omega), obs, l6, obs, br_eq hy.1, l7, obs, wrap_id (by omega) (by omega), eqI_eq, decide_eq_true hy.2, fdone_j0_eq, br_true, a1, obs]
end
/-- What the forward search answers. -/
def FRes (ρ : Nat → Option Nat) (h0 hs : Hp) (g : Nat) (i : If) (B : Nat → Option (List Int)) (lim ux uy dl : Int) (Q : Int → Int → Prop) (d0 : Nat) (o : Option (Hp × Rf)) : Prop :=
  ∃ h' r L ρ' A', o = some (h', r) ∧ Step ρ hs ρ' h' ∧ EG ρ' h0 h' g i A' B lim ux uy dl ∧ DL ρ' hs h' r L ∧ Ch (EM Q ux uy) L 0 0 ux uy ∧ 2 * dsum L = ux + uy - d0
theorem FRes.mk {ρ ρ' : Nat → Option Nat} {h0 hs h h' : Hp} {g : Nat} {i : If} {A B : Nat → Option (List Int)} {lim ux uy dl : Int} {Q : Int → Int → Prop} {d0 : Nat} {r : Rf} {L : List Dg} (st : Step ρ hs ρ' h) (e : EG ρ' h0 h g i A B lim ux uy dl) (b : Blt h h' 154 TS2 r L) (c : Ch (EM Q ux uy) L 0 0 ux uy) (hc : 2 * dsum L = ux + uy - d0) : FRes ρ h0 hs g i B lim ux uy dl Q d0 (some (h', r)) := by
  refine ⟨h', r, L, ρ', A, rfl, st.trans (Step.of_keep b.1), e.grow b.1 b.2.1, ?_, c, hc⟩
  rcases b.2.2 with h1 | ⟨h1, n, h2, h3, h4, h5⟩
  · exact .inl h1
  · exact .inr ⟨h1, n, Nat.le_trans st.1 h2, h3, e.fr n h2, h4, h5⟩
section
variable (K : Nat) {h0 : Hp} {g : Nat} {i : If} {B : Nat → Option (List Int)} {lim ux uy dl : Int} {N M : Int} {Q : Int → Int → Prop} (sq : SeqOk h0 i N M Q) (hN : ux ≤ N) (hM : uy ≤ M) (hx0 : 0 ≤ ux) (hy0 : 0 ≤ uy) (hN2 : N ≤ 1000) (hM2 : M ≤ 1000) (hK : 1000000 ≤ K) (hlim : lim = 50) (d0 : Nat) (hd0 : d0 ≤ 50) (dist : Dist (EM Q ux uy) ux uy d0)
include sq hN hM hx0 hy0 hN2 hM2 hK hlim hd0 dist
/-- A round's label tells whether the end is reached. -/
theorem fin_iff {A : Nat → Option (List Int)} {D : Nat} {k : Int} (hF : FR (EM Q ux uy) D k (lv A D k)) (hD : D ≤ d0) : (lv A D k = ux ∧ lv A D k - k = uy) ↔ (D = d0 ∧ k = ux - uy) := by
  have _u0 := sq
  have _u1 := hN
  have _u2 := hM
  have _u3 := hN2
  have _u4 := hM2
  have _u5 := hK
  have _u6 := hlim
  constructor
  · intro h
    have p : FP (EM Q ux uy) D ux uy := hF.1.cast rfl h.1 h.2
    exact ⟨Nat.le_antisymm hD (dist.2 D p), by omega⟩
  · rintro ⟨rfl, rfl⟩
    have h1 := hF.2 ux (dist.1.cast rfl rfl (by omega))
    obtain ⟨d', p, h2⟩ := hF.1.clip (EM.box hx0 hy0)
    have p : FP (EM Q ux uy) d' ux uy := p.cast rfl (by omega) (by omega)
    have := dist.2 d' p
    omega
variable {ρ0 : Nat → Option Nat} {hs : Hp}
theorem fw_l2 (k0 : Nat) (D : Nat) (hD : D < d0) (cont : ∀ (ρ : Nat → Option Nat) (h : Hp) (A : Nat → Option (List Int)) (k' : Nat), Step ρ0 hs ρ h → EG ρ h0 h g i A B lim ux uy dl → FL (EM Q ux uy) A (D + 1) → D + 1 < d0 → k0 ≤ k' → FRes ρ0 h0 hs g i B lim ux uy dl Q d0 (forward_l0 K k' (.at g 0) 50 ((D : Int) + 1) h)) :
    ∀ (n : Nat) (k : Int) (ρ : Nat → Option Nat) (h : Hp) (A : Nat → Option (List Int)) (k' : Nat), (D : Int) - k < 2 * n → 4 * n + 1 + k0 ≤ k' → -(D : Int) < k → (∃ c : Int, k = ((D + 1 : Nat) : Int) - 2 * c) → Step ρ0 hs ρ h → EG ρ h0 h g i A B lim ux uy dl → FL (EM Q ux uy) A D → A (D + 1) ≠ none → Part (EM Q ux uy) A (D + 1) (fun q => q < k ∨ q = ((D + 1 : Nat) : Int)) → (∀ q, q < k ∨ q = ((D + 1 : Nat) : Int) → ¬ (D + 1 = d0 ∧ q = ux - uy)) →
    FRes ρ0 h0 hs g i B lim ux uy dl Q d0 (forward_l2 K k' (.at g 0) (D : Int) k 50 (D : Int) h) := by
  have wD : IntKind.wrap IntKind.i64 ((D : Int) - 1) = (D : Int) - 1 := wrap_id (by omega) (by omega)
  have wD1 : IntKind.wrap IntKind.i64 ((D : Int) + 1) = (D : Int) + 1 := wrap_id (by omega) (by omega)
  have last : ∀ (k : Int) (ρ : Nat → Option Nat) (h : Hp) (A : Nat → Option (List Int)) (k' : Nat), 1 + k0 ≤ k' → (D : Int) - 1 < k → (∃ c : Int, k = ((D + 1 : Nat) : Int) - 2 * c) → Step ρ0 hs ρ h → EG ρ h0 h g i A B lim ux uy dl → FL (EM Q ux uy) A D → A (D + 1) ≠ none → Part (EM Q ux uy) A (D + 1) (fun q => q < k ∨ q = ((D + 1 : Nat) : Int)) → (∀ q, q < k ∨ q = ((D + 1 : Nat) : Int) → ¬ (D + 1 = d0 ∧ q = ux - uy)) → FRes ρ0 h0 hs g i B lim ux uy dl Q d0 (forward_l2 K k' (.at g 0) (D : Int) k 50 (D : Int) h) := by
    intro k ρ h A k' hk' hk hpar st e fl hA pt nf
    obtain ⟨c, hc⟩ := hpar
    obtain ⟨k', rfl⟩ : ∃ q, k' = q + 1 := ⟨k' - 1, by omega⟩
    rw [forward_l2_eq, wD, br_gt (by omega), wD1]
    have fl' : FL (EM Q ux uy) A (D + 1) := fl.next hA fun q q1 q2 q3 => pt q q1 q2 q3 (by obtain ⟨c', hc'⟩ := q3; omega)
    refine cont ρ h A k' st e fl' ?_ (by omega)
    by_cases hd : D + 1 = d0
    · exfalso
      obtain ⟨c1, r, l, f1, f2, f3⟩ := dist.1.form
      exact nf (ux - uy) (by omega) ⟨hd, rfl⟩
    · omega
  intro n
  induction n with
  | zero =>
    intro k ρ h A k' hn hk' hk0 hpar st e fl hA pt nf
    exact last k ρ h A k' (by omega) (by omega) hpar st e fl hA pt nf
  | succ n ih =>
    intro k ρ h A k' hn hk' hk0 hpar st e fl hA pt nf
    by_cases hc : k ≤ (D : Int) - 1
    · obtain ⟨c, hpc⟩ := hpar
      obtain ⟨k', rfl⟩ : ∃ q, k' = q + 3 := ⟨k' - 3, by omega⟩
      have w1 : IntKind.wrap IntKind.i64 (k - 1) = k - 1 := wrap_id (by omega) (by omega)
      have w2 : IntKind.wrap IntKind.i64 (k + 1) = k + 1 := wrap_id (by omega) (by omega)
      have w3 : IntKind.wrap IntKind.i64 (k + 2) = k + 2 := wrap_id (by omega) (by omega)
      obtain ⟨h', ρ', A', kon, s2, s3, s4, s5, s6⟩ := bodyF K e sq hN hM hx0 hy0 hN2 hM2 (by omega) D k (by omega) hk0 (by omega) ⟨c, hpc⟩ fl
      have pt' := s6 _ pt
      have fl' : FL (EM Q ux uy) A' D := fl.same fun d hd => s4 d (by omega)
      have hFk := pt' k (by omega) (by omega) ⟨c, hpc⟩ (.inr rfl)
      have bdk := FR.bd (EM.box hx0 hy0) hFk
      rw [forward_l2_eq, wD, br_le hc, forward_j8_eq, wD1, w1, w2]
      have kk := kon (fun r4 => forward_j9 K (k' + 1) (.at g 0) (D : Int) k 50 (D : Int) r4)
      rw [show ((D + 1 : Nat) : Int) = (D : Int) + 1 by omega] at kk
      rw [kk, forward_j9_eq, wD1, w3]
      rw [show (D : Int) + 1 = ((D + 1 : Nat) : Int) by omega]
      by_cases hf : D + 1 = d0 ∧ k = ux - uy
      · obtain ⟨h2, r2, L2, y1, y2, y3, y4⟩ := fdone_yes K s3 (Q := Q) hx0 hy0 (by omega) (by omega) (by omega) (D + 1) k (by omega) (by omega) (by omega) ⟨c, hpc⟩ (fun d hd => by
          by_cases hdd : d = D + 1
          · rw [hdd]; exact s5
          · exact fl'.2 d (by omega)) hFk (fun d hd => by have : d = D := by omega
                                                          subst this; exact fl'.1) ((fin_iff K sq hN hM hx0 hy0 hN2 hM2 hK hlim d0 hd0 dist hFk (by omega)).2 hf) (by omega)
        rw [y1, obs]
        show FRes _ _ _ _ _ _ _ _ _ _ _ _ (br true _ _)
        rw [br_true]
        exact FRes.mk (st.trans s2) s3 y2 y3 (by rw [y4, hf.1])
      · have hno := fdone_no K s3 hx0 hy0 (by omega) (by omega) (by omega) (D + 1) k (by omega) (by omega) (by omega) s5 (by omega) (fun hy => hf ((fin_iff K sq hN hM hx0 hy0 hN2 hM2 hK hlim d0 hd0 dist hFk (by omega)).1 hy))
        rw [hno, obs]
        show FRes _ _ _ _ _ _ _ _ _ _ _ _ (br false _ _)
        rw [br_false]
        refine ih (k + 2) ρ' h' A' k' (by omega) (by omega) (by omega) ⟨c - 1, by omega⟩ (st.trans s2) s3 fl' s5 (fun q q1 q2 q3 hq => pt' q q1 q2 q3 ?_) (fun q hq hh => ?_)
        · obtain ⟨c', hc'⟩ := q3
          show (q < k ∨ q = ((D + 1 : Nat) : Int)) ∨ q = k
          omega
        · by_cases hqk : q = k
          · exact hf (by rw [← hqk]; exact hh)
          · obtain ⟨c1, r, l, f1, f2, f3⟩ := dist.1.form
            exact nf q (by omega) hh
    · exact last k ρ h A k' (by omega) (by omega) hpar st e fl hA pt nf
end
end Go.Proofs.Ytfglahmbnnkijaa.E
