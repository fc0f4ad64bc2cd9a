import Derived.Test.YtfglahmbnnkijaaLP
/- Where forward and backward ways have met: all cases. -/
set_option linter.unusedVariables false
set_option linter.unusedSimpArgs false
namespace Go.Proofs.Ytfglahmbnnkijaa.E
open Go.Ev Go.Lcs
theorem w1 (x : Int) (h1 : -100000 ≤ x) (h2 : x ≤ 100000) : IntKind.wrap IntKind.i64 x = x := wrap_id (by omega) (by omega)
section
variable (K : Nat) {ρ : Nat → Option Nat} {h0 h : Hp} {g : Nat} {i : If} {A B : Nat → Option (List Int)} {lim N M : Int} (e : EG ρ h0 h g i A B lim N M (N - M)) {Q : Int → Int → Prop} (sq : SeqOk h0 i N M Q) (hN : 0 ≤ N) (hM : 0 ≤ M) (hN2 : N ≤ 1000) (hM2 : M ≤ 1000) (hK : 30000000 ≤ K) (hlim : lim = 50)
  (df db : Nat) (hdf : df ≤ 50) (hdb : db ≤ 50) (fl : FL (EM Q N M) A df) (bl : BL Q N M B db) (hmin : ∀ d, FP (EM Q N M) d N M → df + db ≤ d)
  (kf kb x y u v : Int) (hkb : kb = kf - (N - M)) (hin : InR df db (N - M) kf) (hx : x = lv A df kf) (hy : y = x - kf) (hu : u = lv B db kb) (hv : v = u - kf)
  (bd : 0 ≤ u ∧ 0 ≤ v ∧ x ≤ N ∧ y ≤ M ∧ FP (EM Q N M) df u v ∧ FP (Rev (EM Q N M) N M) db (N - x) (M - y) ∧ 0 ≤ x ∧ 0 ≤ y ∧ u ≤ x)
include e sq hN hM hN2 hM2 hK hlim hdf hdb fl bl hmin hkb hin hx hy hu hv bd
theorem tl_Fat {h1 : Hp} (k1 : KeepH h h1) (f1 : FreeH h1) : ∃ h' r L, forwardlcs K h1 (.at g 0) (df : Int) kf = some (h', r) ∧ Blt h1 h' 154 TS2 r L ∧ Ch (EM Q N M) L 0 0 x y ∧ 2 * dsum L = x + y - df := tl_F K (e.grow k1 f1) sq hN hM hN2 hM2 hK hlim df db hdf hdb fl bl hmin kf kb x y u v hkb hin hx hy hu hv bd
/-- A forward way to a point ahead of (u, v), and the backward way from there. -/
theorem tl_FB (d : Nat) (k X Y : Int) (hd : d ≤ df) (h1 : -(d : Int) ≤ k) (h2 : k ≤ d) (h3 : ∃ c : Int, k = d - 2 * c) (hX : X = lv A d k) (hY : Y = X - k) (hXu : X ≤ u) (hYv : Y ≤ v) (hs : X + Y - d = u + v - df) :
    TRes h0 N M Q (df + db) (Option.bind (forwardlcs K h (.at g 0) (d : Int) k) fun r0 => Option.bind (backwardlcs K (r0).1 (.at g 0) (db : Int) kb) fun r1 => Option.bind ((Hp.cs (r1).1 3 (r1).2)) fun r2 => chk (ltI (((rlen (r0).2) : Int) + ((r2).2 : Int)) (1000000000000 : Int)) (Option.bind ((Hp.app (r1).1 (154 : TypeId) 3 (r2).1 (r2).2 (r0).2)) fun r3 => Option.bind (sort K (r3).2 (r3).1) fun r4 => some ((r4).1, (r4).2))) := by
  have fl' := fl.lower hd
  obtain ⟨h1', r1, L1, a1, a2, a3, a4⟩ := forwardlcs_ok K e (by omega) d k (by omega) h1 h2 h3 fl'.2 fl'.1 (by have := bd.2.2.1; omega) (by have := bd.2.2.2.1; have := bd.2.2.2.2.2.2.2.2; omega) (by omega)
  rw [← hX, ← hY] at a3 a4
  obtain ⟨h2', r2, L2, c1, c2, c3, c4⟩ := tl_B K e sq hN hM hN2 hM2 hK hlim df db hdf hdb fl bl hmin kf kb x y u v hkb hin hx hy hu hv bd a2.1 a2.2.1
  rw [a1, obs]
  show TRes _ _ _ _ _ (Option.bind (backwardlcs K h1' (.at g 0) (db : Int) kb) _)
  rw [c1, obs]
  exact fin_join K (Blt.base e.keep (Blt.more a2 c2.1 c2.2.1)) c2.sl (List.Perm.refl _) ((a3.weak (Int.le_refl _) (Int.le_refl _) hXu hYv).append c3) (by rw [dsum_append]; omega) hN2 (by omega)
/-- A backward way from a point behind (x, y), and the forward way to there. -/
theorem tl_BF (d : Nat) (k X Y : Int) (hd : d ≤ db) (h1 : -(d : Int) ≤ k) (h2 : k ≤ d) (h3 : ∃ c : Int, k = d - 2 * c) (hX : X = lv B d k) (hY : Y = X - (k + (N - M))) (hXu : x ≤ X) (hYv : y ≤ Y) (hs : N - X + (M - Y) - d = N - x + (M - y) - db) :
    TRes h0 N M Q (df + db) (Option.bind (backwardlcs K h (.at g 0) (d : Int) k) fun r0 => Option.bind (forwardlcs K (r0).1 (.at g 0) (df : Int) kf) fun r1 => Option.bind ((Hp.cs (r1).1 3 (r1).2)) fun r2 => chk (ltI (((rlen (r0).2) : Int) + ((r2).2 : Int)) (1000000000000 : Int)) (Option.bind ((Hp.app (r1).1 (154 : TypeId) 3 (r2).1 (r2).2 (r0).2)) fun r3 => Option.bind (sort K (r3).2 (r3).1) fun r4 => some ((r4).1, (r4).2))) := by
  have bl' : BL Q N M B d := ⟨fun q hq => bl.1 q (by omega), fun q hq => bl.2 q (by omega)⟩
  obtain ⟨h1', r1, L1, a1, a2, a3, a4⟩ := backwardlcs_ok K e (E := EM Q N M) (by omega) hN hM (by omega) (by omega) d k (by omega) h1 h2 h3 bl'.2 bl'.1 (by have := bd.2.2.2.2.2.2.1; omega) (by have := bd.2.2.2.2.2.2.2.1; omega) (by omega)
  rw [← hX, ← hY] at a3 a4
  obtain ⟨h2', r2, L2, c1, c2, c3, c4⟩ := tl_Fat K e sq hN hM hN2 hM2 hK hlim df db hdf hdb fl bl hmin kf kb x y u v hkb hin hx hy hu hv bd a2.1 a2.2.1
  rw [a1, obs]
  show TRes _ _ _ _ _ (Option.bind (forwardlcs K h1' (.at g 0) (df : Int) kf) _)
  rw [c1, obs]
  exact fin_join K (Blt.base e.keep (Blt.more a2 c2.1 c2.2.1)) c2.sl List.perm_append_comm ((c3.weak (Int.le_refl _) (Int.le_refl _) hXu hYv).append a3) (by rw [dsum_append]; omega) hN2 (by omega)
theorem tl_j11 (k' : Nat) (b : Bool) (hb : b = true → ∃ d : Nat, db = d + 1 ∧ -(d : Int) ≤ kb - 1 ∧ kb - 1 ≤ d ∧ lv B d (kb - 1) = x ∧ y + 1 ≤ M) : TRes h0 N M Q (df + db) (twolcs_j11 K (k' + 2) (.at g 0) (df : Int) (db : Int) kf kb u v b h) := by
  obtain ⟨i1, i2, i3, i4, ⟨ci, i5⟩, ⟨cj, i6⟩⟩ := id hin
  rw [twolcs_j11_eq]
  cases b with
  | true =>
    obtain ⟨d, hd, q1, q2, q3, q4⟩ := hb rfl
    rw [br_true, w1 ((db : Int) - 1) (by omega) (by omega), w1 (kb - 1) (by omega) (by omega), show (db : Int) - 1 = (d : Int) by omega]
    exact tl_BF K e sq hN hM hN2 hM2 hK hlim df db hdf hdb fl bl hmin kf kb x y u v hkb hin hx hy hu hv bd d (kb - 1) x (y + 1) (by omega) q1 q2 ⟨cj, by omega⟩ q3.symm (by omega) (Int.le_refl _) (by omega) (by omega)
  | false =>
    rw [br_false]
    exact tl_j12 K e sq hN hM hN2 hM2 hK hlim df db hdf hdb fl bl hmin kf kb x y u v hkb hin hx hy hu hv bd k'
theorem tl_j10 (k' : Nat) : TRes h0 N M Q (df + db) (twolcs_j10 K (k' + 3) (.at g 0) (df : Int) (db : Int) kf x y kb u v h) := by
  obtain ⟨i1, i2, i3, i4, ⟨ci, i5⟩, ⟨cj, i6⟩⟩ := id hin
  have l7 := (EG.ld e 7).2.2.2.2.1 rfl
  have l8 := (EG.ld e 8).2.2.2.2.2.1 rfl
  obtain ⟨b1, b2, b3, b4, b5, b6, b7, b8, b9⟩ := id bd
  have no := tl_j11 K e sq hN hM hN2 hM2 hK hlim df db hdf hdb fl bl hmin kf kb x y u v hkb hin hx hy hu hv bd k' false (fun h => by cases h)
  rw [twolcs_j10_eq]
  simp only [np, chk_t]
  rw [l7, obs, w1 (y + 1) (by omega) (by omega)]
  by_cases c1 : y + 1 ≤ M
  · rw [br_le c1, l8, obs, obs, w1 ((db : Int) - 1) (by omega) (by omega), w1 (x - (y + 1)) (by omega) (by omega), w1 (x - (y + 1) - (N - M)) (by omega) (by omega), show x - (y + 1) - (N - M) = kb - 1 by omega, ok_ok K _ _ (by omega) (by omega) (by omega), obs]
    by_cases ho : 0 ≤ (db : Int) - 1 ∧ -((db : Int) - 1) ≤ kb - 1 ∧ kb - 1 ≤ (db : Int) - 1
    · rw [decide_eq_true ho, br_true]
      obtain ⟨d, hd⟩ : ∃ d, db = d + 1 := ⟨db - 1, by omega⟩
      rw [show (db : Int) - 1 = (d : Int) by omega, get2_ok K e d (kb - 1) (bl.2 d (by omega)) (by omega) (by omega) (by omega) (by omega), obs]
      refine tl_j11 K e sq hN hM hN2 hM2 hK hlim df db hdf hdb fl bl hmin kf kb x y u v hkb hin hx hy hu hv bd k' _ (fun hb => ?_)
      rw [eqI_eq] at hb
      exact ⟨d, hd, by omega, by omega, of_decide_eq_true hb, c1⟩
    · rw [decide_eq_false ho, br_false]
      exact no
  · rw [br_gt (by omega)]
    exact no
theorem tl_j9 (k' : Nat) (b : Bool) (hb : b = true → ∃ d : Nat, db = d + 1 ∧ -(d : Int) ≤ kb + 1 ∧ kb + 1 ≤ d ∧ lv B d (kb + 1) = x + 1 ∧ x + 1 ≤ N) : TRes h0 N M Q (df + db) (twolcs_j9 K (k' + 4) (.at g 0) (df : Int) (db : Int) kf x y kb u v b h) := by
  obtain ⟨i1, i2, i3, i4, ⟨ci, i5⟩, ⟨cj, i6⟩⟩ := id hin
  rw [twolcs_j9_eq]
  cases b with
  | true =>
    obtain ⟨d, hd, q1, q2, q3, q4⟩ := hb rfl
    rw [br_true, w1 ((db : Int) - 1) (by omega) (by omega), w1 (kb + 1) (by omega) (by omega), show (db : Int) - 1 = (d : Int) by omega]
    exact tl_BF K e sq hN hM hN2 hM2 hK hlim df db hdf hdb fl bl hmin kf kb x y u v hkb hin hx hy hu hv bd d (kb + 1) (x + 1) y (by omega) q1 q2 ⟨cj - 1, by omega⟩ q3.symm (by omega) (by omega) (Int.le_refl _) (by omega)
  | false =>
    rw [br_false]
    exact tl_j10 K e sq hN hM hN2 hM2 hK hlim df db hdf hdb fl bl hmin kf kb x y u v hkb hin hx hy hu hv bd k'
theorem tl_j7 (k' : Nat) : TRes h0 N M Q (df + db) (twolcs_j7 K (k' + 5) (.at g 0) (df : Int) (db : Int) kf x y kb u v h) := by
  obtain ⟨i1, i2, i3, i4, ⟨ci, i5⟩, ⟨cj, i6⟩⟩ := id hin
  have l6 := (EG.ld e 6).2.2.2.1 rfl
  have l8 := (EG.ld e 8).2.2.2.2.2.1 rfl
  obtain ⟨b1, b2, b3, b4, b5, b6, b7, b8, b9⟩ := id bd
  have no := tl_j9 K e sq hN hM hN2 hM2 hK hlim df db hdf hdb fl bl hmin kf kb x y u v hkb hin hx hy hu hv bd k' false (fun h => by cases h)
  rw [twolcs_j7_eq]
  simp only [np, chk_t]
  rw [l6, obs, w1 (x + 1) (by omega) (by omega)]
  by_cases c1 : x + 1 ≤ N
  · rw [br_le c1, l8, obs, obs, w1 ((db : Int) - 1) (by omega) (by omega), w1 (x + 1 - y) (by omega) (by omega), w1 (x + 1 - y - (N - M)) (by omega) (by omega), show x + 1 - y - (N - M) = kb + 1 by omega, ok_ok K _ _ (by omega) (by omega) (by omega), obs]
    by_cases ho : 0 ≤ (db : Int) - 1 ∧ -((db : Int) - 1) ≤ kb + 1 ∧ kb + 1 ≤ (db : Int) - 1
    · rw [decide_eq_true ho, br_true]
      obtain ⟨d, hd⟩ : ∃ d, db = d + 1 := ⟨db - 1, by omega⟩
      rw [show (db : Int) - 1 = (d : Int) by omega, get2_ok K e d (kb + 1) (bl.2 d (by omega)) (by omega) (by omega) (by omega) (by omega), obs]
      refine tl_j9 K e sq hN hM hN2 hM2 hK hlim df db hdf hdb fl bl hmin kf kb x y u v hkb hin hx hy hu hv bd k' _ (fun hb => ?_)
      rw [eqI_eq] at hb
      exact ⟨d, hd, by omega, by omega, of_decide_eq_true hb, c1⟩
    · rw [decide_eq_false ho, br_false]
      exact no
  · rw [br_gt (by omega)]
    exact no
/-- One way leads along the edge. -/
theorem tl_j6 (k' : Nat) (b : Bool) (hb : b = true → u = 0 ∨ v = 0) (hb' : b = false → x = N ∨ y = M) : TRes h0 N M Q (df + db) (twolcs_j6 K (k' + 2) (.at g 0) (df : Int) (db : Int) kf kb b h) := by
  obtain ⟨b1, b2, b3, b4, b5, b6, b7, b8, b9⟩ := id bd
  rw [twolcs_j6_eq]
  cases b with
  | true =>
    obtain ⟨h1, r1, L1, a1, a2, a3, a4⟩ := tl_B K e sq hN hM hN2 hM2 hK hlim df db hdf hdb fl bl hmin kf kb x y u v hkb hin hx hy hu hv bd (KeepH.refl h) e.free
    obtain ⟨c, r, l, f1, f2, f3⟩ := b5.form
    have := hb rfl
    rw [br_true, a1, obs]
    exact ⟨h1, r1, L1, rfl, Blt.base e.keep a2, a3.weak b1 b2 (Int.le_refl _) (Int.le_refl _), by omega⟩
  | false =>
    obtain ⟨h1, r1, L1, a1, a2, a3, a4⟩ := tl_F K e sq hN hM hN2 hM2 hK hlim df db hdf hdb fl bl hmin kf kb x y u v hkb hin hx hy hu hv bd
    obtain ⟨c, r, l, f1, f2, f3⟩ := b6.form
    have := hb' rfl
    rw [br_false, twolcs_j8_eq, a1, obs]
    exact ⟨h1, r1, L1, rfl, Blt.base e.keep a2, a3.weak (Int.le_refl _) (Int.le_refl _) b3 b4, by omega⟩
theorem tl_j4 (k' : Nat) : TRes h0 N M Q (df + db) (twolcs_j4 K (k' + 7) (.at g 0) (df : Int) (db : Int) kf x y kb u v h) := by
  have l6 := (EG.ld e 6).2.2.2.1 rfl
  have l7 := (EG.ld e 7).2.2.2.2.1 rfl
  have yes : (u = 0 ∨ v = 0 ∨ x = N ∨ y = M) → TRes h0 N M Q (df + db) (twolcs_j5 K (k' + 6) (.at g 0) (df : Int) (db : Int) kf x y kb u v true h) := by
    intro hc
    rw [twolcs_j5_eq, br_true]
    by_cases c1 : u = 0
    · rw [br_eq c1]
      exact tl_j6 K e sq hN hM hN2 hM2 hK hlim df db hdf hdb fl bl hmin kf kb x y u v hkb hin hx hy hu hv bd (k' + 3) true (fun _ => .inl c1) (fun h => by cases h)
    · rw [br_ne c1]
      refine tl_j6 K e sq hN hM hN2 hM2 hK hlim df db hdf hdb fl bl hmin kf kb x y u v hkb hin hx hy hu hv bd (k' + 3) _ (fun hb => ?_) (fun hb => ?_)
      · rw [eqI_eq] at hb
        exact .inr (of_decide_eq_true hb)
      · rw [eqI_eq] at hb
        have := of_decide_eq_false hb
        omega
  rw [twolcs_j4_eq]
  by_cases c1 : u = 0
  · rw [br_eq c1]
    exact yes (.inl c1)
  rw [br_ne c1]
  by_cases c2 : v = 0
  · rw [br_eq c2]
    exact yes (.inr (.inl c2))
  rw [br_ne c2]
  simp only [np, chk_t]
  rw [l6, obs]
  by_cases c3 : x = N
  · rw [br_eq c3]
    exact yes (.inr (.inr (.inl c3)))
  rw [br_ne c3, l7, obs, eqI_eq]
  by_cases c4 : y = M
  · rw [decide_eq_true c4]
    exact yes (.inr (.inr (.inr c4)))
  rw [decide_eq_false c4, twolcs_j5_eq, br_false]
  exact tl_j7 K e sq hN hM hN2 hM2 hK hlim df db hdf hdb fl bl hmin kf kb x y u v hkb hin hx hy hu hv bd k'
theorem tl_j3 (k' : Nat) (b : Bool) (hb : b = true → ∃ d : Nat, df = d + 1 ∧ -(d : Int) ≤ u - (v - 1) ∧ u - (v - 1) ≤ d ∧ lv A d (u - (v - 1)) = u ∧ 0 < v) : TRes h0 N M Q (df + db) (twolcs_j3 K (k' + 8) (.at g 0) (df : Int) (db : Int) kf x y kb u v b h) := by
  obtain ⟨i1, i2, i3, i4, ⟨ci, i5⟩, ⟨cj, i6⟩⟩ := id hin
  obtain ⟨b1, b2, b3, b4, b5, b6, b7, b8, b9⟩ := id bd
  rw [twolcs_j3_eq]
  cases b with
  | true =>
    obtain ⟨d, hd, q1, q2, q3, q4⟩ := hb rfl
    rw [br_true, w1 ((df : Int) - 1) (by omega) (by omega), w1 (v - 1) (by omega) (by omega), w1 (u - (v - 1)) (by omega) (by omega), show (df : Int) - 1 = (d : Int) by omega]
    exact tl_FB K e sq hN hM hN2 hM2 hK hlim df db hdf hdb fl bl hmin kf kb x y u v hkb hin hx hy hu hv bd d (u - (v - 1)) u (v - 1) (by omega) q1 q2 ⟨ci - 1, by omega⟩ q3.symm (by omega) (Int.le_refl _) (by omega) (by omega)
  | false =>
    rw [br_false]
    exact tl_j4 K e sq hN hM hN2 hM2 hK hlim df db hdf hdb fl bl hmin kf kb x y u v hkb hin hx hy hu hv bd k'
theorem tl_j2 (k' : Nat) : TRes h0 N M Q (df + db) (twolcs_j2 K (k' + 9) (.at g 0) (df : Int) (db : Int) kf x y kb u v h) := by
  obtain ⟨i1, i2, i3, i4, ⟨ci, i5⟩, ⟨cj, i6⟩⟩ := id hin
  obtain ⟨b1, b2, b3, b4, b5, b6, b7, b8, b9⟩ := id bd
  have no := tl_j3 K e sq hN hM hN2 hM2 hK hlim df db hdf hdb fl bl hmin kf kb x y u v hkb hin hx hy hu hv bd k' false (fun h => by cases h)
  rw [twolcs_j2_eq]
  by_cases c1 : 0 < v
  · rw [br_lt c1, w1 ((df : Int) - 1) (by omega) (by omega), w1 (v - 1) (by omega) (by omega), w1 (u - (v - 1)) (by omega) (by omega), ok_ok K _ _ (by omega) (by omega) (by omega), obs]
    by_cases ho : 0 ≤ (df : Int) - 1 ∧ -((df : Int) - 1) ≤ u - (v - 1) ∧ u - (v - 1) ≤ (df : Int) - 1
    · rw [decide_eq_true ho, br_true]
      simp only [np, chk_t]
      obtain ⟨d, hd⟩ : ∃ d, df = d + 1 := ⟨df - 1, by omega⟩
      rw [show (df : Int) - 1 = (d : Int) by omega, get1_ok K e d (u - (v - 1)) (fl.2 d (by omega)) (by omega) (by omega) (by omega) (by omega), obs]
      refine tl_j3 K e sq hN hM hN2 hM2 hK hlim df db hdf hdb fl bl hmin kf kb x y u v hkb hin hx hy hu hv bd k' _ (fun hb => ?_)
      rw [eqI_eq] at hb
      exact ⟨d, hd, by omega, by omega, of_decide_eq_true hb, c1⟩
    · rw [decide_eq_false ho, br_false]
      exact no
  · rw [br_ge (by omega)]
    exact no
theorem tl_j1 (k' : Nat) (b : Bool) (hb : b = true → ∃ d : Nat, df = d + 1 ∧ -(d : Int) ≤ u - 1 - v ∧ u - 1 - v ≤ d ∧ lv A d (u - 1 - v) = u - 1 ∧ 0 < u) : TRes h0 N M Q (df + db) (twolcs_j1 K (k' + 10) (.at g 0) (df : Int) (db : Int) kf x y kb u v b h) := by
  obtain ⟨i1, i2, i3, i4, ⟨ci, i5⟩, ⟨cj, i6⟩⟩ := id hin
  obtain ⟨b1, b2, b3, b4, b5, b6, b7, b8, b9⟩ := id bd
  rw [twolcs_j1_eq]
  cases b with
  | true =>
    obtain ⟨d, hd, q1, q2, q3, q4⟩ := hb rfl
    rw [br_true, w1 ((df : Int) - 1) (by omega) (by omega), w1 (u - 1) (by omega) (by omega), w1 (u - 1 - v) (by omega) (by omega), show (df : Int) - 1 = (d : Int) by omega]
    exact tl_FB K e sq hN hM hN2 hM2 hK hlim df db hdf hdb fl bl hmin kf kb x y u v hkb hin hx hy hu hv bd d (u - 1 - v) (u - 1) v (by omega) q1 q2 ⟨ci, by omega⟩ q3.symm (by omega) (by omega) (Int.le_refl _) (by omega)
  | false =>
    rw [br_false]
    exact tl_j2 K e sq hN hM hN2 hM2 hK hlim df db hdf hdb fl bl hmin kf kb x y u v hkb hin hx hy hu hv bd k'
theorem tl_j0 (k' : Nat) : TRes h0 N M Q (df + db) (twolcs_j0 K (k' + 11) (.at g 0) (df : Int) (db : Int) kf x y kb u v h) := by
  obtain ⟨i1, i2, i3, i4, ⟨ci, i5⟩, ⟨cj, i6⟩⟩ := id hin
  obtain ⟨b1, b2, b3, b4, b5, b6, b7, b8, b9⟩ := id bd
  have no := tl_j1 K e sq hN hM hN2 hM2 hK hlim df db hdf hdb fl bl hmin kf kb x y u v hkb hin hx hy hu hv bd k' false (fun h => by cases h)
  rw [twolcs_j0_eq]
  by_cases c1 : 0 < u
  · rw [br_lt c1, w1 ((df : Int) - 1) (by omega) (by omega), w1 (u - 1) (by omega) (by omega), w1 (u - 1 - v) (by omega) (by omega), ok_ok K _ _ (by omega) (by omega) (by omega), obs]
    by_cases ho : 0 ≤ (df : Int) - 1 ∧ -((df : Int) - 1) ≤ u - 1 - v ∧ u - 1 - v ≤ (df : Int) - 1
    · rw [decide_eq_true ho, br_true]
      simp only [np, chk_t]
      obtain ⟨d, hd⟩ : ∃ d, df = d + 1 := ⟨df - 1, by omega⟩
      rw [show (df : Int) - 1 = (d : Int) by omega, get1_ok K e d (u - 1 - v) (fl.2 d (by omega)) (by omega) (by omega) (by omega) (by omega), obs]
      refine tl_j1 K e sq hN hM hN2 hM2 hK hlim df db hdf hdb fl bl hmin kf kb x y u v hkb hin hx hy hu hv bd k' _ (fun hb => ?_)
      rw [eqI_eq] at hb
      exact ⟨d, hd, by omega, by omega, of_decide_eq_true hb, c1⟩
    · rw [decide_eq_false ho, br_false]
      exact no
  · rw [br_ge (by omega)]
    exact no
theorem tl_all (hK2 : 40000000 ≤ K) : TRes h0 N M Q (df + db) (twolcs K h (.at g 0) (df : Int) (db : Int) kf) := by
  obtain ⟨K, rfl⟩ : ∃ q, K = q + 12 := ⟨K - 12, by omega⟩
  obtain ⟨i1, i2, i3, i4, ⟨ci, i5⟩, ⟨cj, i6⟩⟩ := id hin
  obtain ⟨b1, b2, b3, b4, b5, b6, b7, b8, b9⟩ := id bd
  have l8 := (EG.ld e 8).2.2.2.2.2.1 rfl
  rw [twolcs_eq]
  simp only [np, chk_t]
  rw [get1_ok (K + 11) e df kf (fl.2 df (Nat.le_refl _)) (by omega) i1 i2 (by omega), obs, l8, obs, w1 (kf - (N - M)) (by omega) (by omega), ← hkb, get2_ok (K + 11) e db kb (bl.2 db (Nat.le_refl _)) (by omega) (by omega) (by omega) (by omega), obs, ← hx, ← hu]
  by_cases c1 : x = u
  · rw [br_eq c1]
    exact tl_FB (K + 11) e sq hN hM hN2 hM2 (by omega) hlim df db hdf hdb fl bl hmin kf kb x y u v hkb hin hx hy hu hv bd df kf x y (Nat.le_refl _) i1 i2 ⟨ci, i5⟩ hx hy (by omega) (by omega) (by omega)
  · rw [br_ne c1, w1 (x - kf) (by omega) (by omega), w1 (u - kf) (by omega) (by omega), ← hy, ← hv]
    exact tl_j0 (K + 11) e sq hN hM hN2 hM2 (by omega) hlim df db hdf hdb fl bl hmin kf kb x y u v hkb hin hx hy hu hv bd K
end
end Go.Proofs.Ytfglahmbnnkijaa.E
