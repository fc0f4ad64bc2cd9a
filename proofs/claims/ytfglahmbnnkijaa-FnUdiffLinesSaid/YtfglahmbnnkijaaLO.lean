import Derived.Test.YtfglahmbnnkijaaLN
/- The forward search, whole; lists of diagonals joined. -/
set_option linter.unusedVariables false
set_option linter.unusedSimpArgs false
namespace Go.Proofs.Ytfglahmbnnkijaa.E
open Go.Ev Go.Lcs
theorem wneg (D : Nat) (h : D ≤ 1000) : IntKind.wrap IntKind.i64 ((0 : Int) - (D : Int)) = -(D : Int) := by rw [Int.zero_sub, wrap_id (by omega) (by omega)]
theorem wsuc (D : Nat) (h : D ≤ 1000) : IntKind.wrap IntKind.i64 ((D : Int) + 1) = ((D + 1 : Nat) : Int) := by rw [wrap_id (by omega) (by omega)]; omega
theorem wneg1 (D : Nat) (h : D ≤ 1000) : IntKind.wrap IntKind.i64 (-(D : Int) + 1) = -(D : Int) + 1 := wrap_id (by omega) (by omega)
section
variable (K : Nat) {h0 : Hp} {g : Nat} {i : If} {B : Nat → Option (List Int)} {lim ux uy dl : Int} {N M : Int} {Q : Int → Int → Prop} (sq : SeqOk h0 i N M Q) (hN : ux ≤ N) (hM : uy ≤ M) (hx0 : 0 ≤ ux) (hy0 : 0 ≤ uy) (hN2 : N ≤ 1000) (hM2 : M ≤ 1000) (hK : 1000000 ≤ K) (hlim : lim = 50) (d0 : Nat) (hd0 : d0 ≤ 50) (dist : Dist (EM Q ux uy) ux uy d0) {ρ0 : Nat → Option Nat} {hs : Hp}
include sq hN hM hx0 hy0 hN2 hM2 hK hlim hd0 dist
theorem fw_round (k0 D : Nat) (ρ : Nat → Option Nat) (h : Hp) (A : Nat → Option (List Int)) (k' : Nat) (hD : D < d0) (hk' : 300 + k0 ≤ k') (st : Step ρ0 hs ρ h) (e : EG ρ h0 h g i A B lim ux uy dl) (fl : FL (EM Q ux uy) A D)
    (cont : ∀ (ρ : Nat → Option Nat) (h : Hp) (A : Nat → Option (List Int)) (k' : Nat), Step ρ0 hs ρ h → EG ρ h0 h g i A B lim ux uy dl → FL (EM Q ux uy) A (D + 1) → D + 1 < d0 → k0 ≤ k' → FRes ρ0 h0 hs g i B lim ux uy dl Q d0 (forward_l0 K k' (.at g 0) 50 ((D : Int) + 1) h)) :
    FRes ρ0 h0 hs g i B lim ux uy dl Q d0 (forward_l0 K k' (.at g 0) 50 (D : Int) h) := by
  obtain ⟨k', rfl⟩ : ∃ q, k' = q + 4 := ⟨k' - 4, by omega⟩
  obtain ⟨h1, ρ1, A1, p1, p2, p3, p4, p5, p6, p7⟩ := lowF K e sq hN hM hx0 hy0 hN2 hM2 (by omega) D (by omega) fl
  have fl1 : FL (EM Q ux uy) A1 D := fl.same fun d hd => p5 d (by omega)
  have hF1 := p7 (-((D + 1 : Nat) : Int)) (by omega) (by omega) ⟨((D + 1 : Nat) : Int), by omega⟩ rfl
  have bd1 := FR.bd (EM.box hx0 hy0) hF1
  rw [forward_l0_eq, br_lt (by omega), forward_j1_eq, wneg D (by omega), wsuc D (by omega), wneg (D + 1) (by omega), p1, obs, p2, obs]
  by_cases hf : D + 1 = d0 ∧ -((D + 1 : Nat) : Int) = ux - uy
  · obtain ⟨h2, r2, L2, y1, y2, y3, y4⟩ := fdone_yes K p4 (Q := Q) hx0 hy0 (by omega) (by omega) (by omega) (D + 1) (-((D + 1 : Nat) : Int)) (by omega) (by omega) (by omega) ⟨((D + 1 : Nat) : Int), by omega⟩ (fun d hd => by
      by_cases hdd : d = D + 1
      · rw [hdd]; exact p6
      · exact fl1.2 d (by omega)) hF1 (fun d hd => by
        have : d = D := by omega
        subst this
        exact fl1.1) ((fin_iff K sq hN hM hx0 hy0 hN2 hM2 hK hlim d0 hd0 dist hF1 (by omega)).2 hf) (by omega)
    rw [y1, obs]
    show FRes _ _ _ _ _ _ _ _ _ _ _ _ (br true _ _)
    rw [br_true]
    exact FRes.mk (st.trans p3) p4 y2 y3 (by rw [y4, hf.1])
  have hno := fdone_no K p4 hx0 hy0 (by omega) (by omega) (by omega) (D + 1) (-((D + 1 : Nat) : Int)) (by omega) (by omega) (by omega) p6 (by omega) (fun hy => hf ((fin_iff K sq hN hM hx0 hy0 hN2 hM2 hK hlim d0 hd0 dist hF1 (by omega)).1 hy))
  rw [hno, obs]
  show FRes _ _ _ _ _ _ _ _ _ _ _ _ (br false _ (forward_j3 K (k' + 2) (.at g 0) (D : Int) 50 (D : Int) h1))
  obtain ⟨h2, ρ2, A2, q1, q2, q3, q4, q5, q6, q7⟩ := highF K p4 sq hN hM hx0 hy0 hN2 hM2 (by omega) D (by omega) fl1
  have fl2 : FL (EM Q ux uy) A2 D := fl1.same fun d hd => q5 d (by omega)
  have pt2 := q7 _ p7
  have hF2 := pt2 ((D + 1 : Nat) : Int) (by omega) (by omega) ⟨0, by omega⟩ (.inr rfl)
  have bd2 := FR.bd (EM.box hx0 hy0) hF2
  rw [br_false, forward_j3_eq, wsuc D (by omega), q1, obs]
  show FRes _ _ _ _ _ _ _ _ _ _ _ _ (Option.bind (setForward K h1 (.at g 0) ((D + 1 : Nat) : Int) ((D + 1 : Nat) : Int) (IntKind.wrap IntKind.i64 (lv A1 D (D : Int) + 1))) _)
  rw [q2, obs]
  by_cases hf2 : D + 1 = d0 ∧ ((D + 1 : Nat) : Int) = ux - uy
  · obtain ⟨h3, r2, L2, y1, y2, y3, y4⟩ := fdone_yes K q4 (Q := Q) hx0 hy0 (by omega) (by omega) (by omega) (D + 1) ((D + 1 : Nat) : Int) (by omega) (by omega) (by omega) ⟨0, by omega⟩ (fun d hd => by
      by_cases hdd : d = D + 1
      · rw [hdd]; exact q6
      · exact fl2.2 d (by omega)) hF2 (fun d hd => by
        have : d = D := by omega
        subst this
        exact fl2.1) ((fin_iff K sq hN hM hx0 hy0 hN2 hM2 hK hlim d0 hd0 dist hF2 (by omega)).2 hf2) (by omega)
    rw [y1, obs]
    show FRes _ _ _ _ _ _ _ _ _ _ _ _ (br true _ _)
    rw [br_true]
    exact FRes.mk ((st.trans p3).trans q3) q4 y2 y3 (by rw [y4, hf2.1])
  have hno2 := fdone_no K q4 hx0 hy0 (by omega) (by omega) (by omega) (D + 1) ((D + 1 : Nat) : Int) (by omega) (by omega) (by omega) q6 (by omega) (fun hy => hf2 ((fin_iff K sq hN hM hx0 hy0 hN2 hM2 hK hlim d0 hd0 dist hF2 (by omega)).1 hy))
  rw [hno2, obs]
  show FRes _ _ _ _ _ _ _ _ _ _ _ _ (br false _ (forward_j4 K (k' + 1) (.at g 0) (D : Int) 50 (D : Int) h2))
  rw [br_false, forward_j4_eq, wneg D (by omega), wneg1 D (by omega)]
  refine fw_l2 K sq hN hM hx0 hy0 hN2 hM2 hK hlim d0 hd0 dist k0 D hD cont 60 (-(D : Int) + 1) ρ2 h2 A2 k' (by omega) (by omega) (by omega) ⟨D, by omega⟩ ((st.trans p3).trans q3) q4 fl2 q6 (fun q q1' q2' q3' hq => pt2 q q1' q2' q3' ?_) (fun q hq hh => ?_)
  · obtain ⟨c', hc'⟩ := q3'
    show q = -((D + 1 : Nat) : Int) ∨ q = ((D + 1 : Nat) : Int)
    omega
  · obtain ⟨c1, r, l, f1, f2, f3⟩ := dist.1.form
    rcases hq with hq | hq
    · exact hf ⟨hh.1, by omega⟩
    · exact hf2 ⟨hh.1, by omega⟩
theorem fw_l0 : ∀ (m D : Nat) (ρ : Nat → Option Nat) (h : Hp) (A : Nat → Option (List Int)) (k' : Nat), d0 = D + 1 + m → 1000 * (m + 1) ≤ k' → Step ρ0 hs ρ h → EG ρ h0 h g i A B lim ux uy dl → FL (EM Q ux uy) A D → FRes ρ0 h0 hs g i B lim ux uy dl Q d0 (forward_l0 K k' (.at g 0) 50 (D : Int) h) := by
  intro m
  induction m with
  | zero =>
    intro D ρ h A k' hd hk' st e fl
    exact fw_round K sq hN hM hx0 hy0 hN2 hM2 hK hlim d0 hd0 dist 0 D ρ h A k' (by omega) (by omega) st e fl (fun ρ h A k' _ _ _ hlt _ => absurd hlt (by omega))
  | succ m ih =>
    intro D ρ h A k' hd hk' st e fl
    obtain ⟨q, hq⟩ : ∃ q, q = 1000 * (m + 1) := ⟨_, rfl⟩
    have h1 : D < d0 := by omega
    have h2 : 300 + q ≤ k' := by omega
    exact fw_round K sq hN hM hx0 hy0 hN2 hM2 hK hlim d0 hd0 dist q D ρ h A k' h1 h2 st e fl (fun ρ h A k' st e fl _ hk => by
      rw [hq] at hk
      have := ih (D + 1) ρ h A k' (by omega) hk st e fl
      rw [show ((D + 1 : Nat) : Int) = (D : Int) + 1 by omega] at this
      exact this)
theorem forward_ok {A : Nat → Option (List Int)} (e : EG ρ0 h0 hs g i A B lim ux uy dl) (hK2 : 2000000 ≤ K) : FRes ρ0 h0 hs g i B lim ux uy dl Q d0 (forward K hs (.at g 0)) := by
  obtain ⟨K, rfl⟩ : ∃ q, K = q + 2 := ⟨K - 2, by omega⟩
  have l4 := (EG.ld e 4).2.1 rfl
  obtain ⟨h1, ρ1, A1, p1, p2, p3, p4⟩ := zeroF (K + 1) e sq hN hM hx0 hy0 hN2 hM2 (by omega)
  have hF := p4.1 0 (Nat.le_refl _) 0 (by omega) (by omega) ⟨0, by omega⟩
  have bd := FR.bd (EM.box hx0 hy0) hF
  rw [forward_eq]
  simp only [np, chk_t]
  rw [l4, obs, p1, obs]
  obtain ⟨c1, r, l, f1, f2, f3⟩ := dist.1.form
  by_cases hf : 0 = d0 ∧ (0 : Int) = ux - uy
  · obtain ⟨h2, r2, L2, y1, y2, y3, y4⟩ := fdone_yes (K + 1) p3 (Q := Q) hx0 hy0 (by omega) (by omega) (by omega) 0 0 (by omega) (by omega) (by omega) ⟨0, by omega⟩ p4.2 hF (fun d hd => by omega) ((fin_iff (K + 2) sq hN hM hx0 hy0 hN2 hM2 hK hlim d0 hd0 dist hF (by omega)).2 hf) (by omega)
    have y1 : fdone (K + 1) h1 (.at g 0) (0 : Int) (0 : Int) = some (h2, (true, r2)) := y1
    rw [y1, obs]
    show FRes _ _ _ _ _ _ _ _ _ _ _ _ (br true _ _)
    rw [br_true]
    exact FRes.mk p2 p3 y2 y3 (by rw [y4, hf.1])
  · have hno := fdone_no (K + 1) p3 hx0 hy0 (by omega) (by omega) (by omega) 0 0 (by omega) (by omega) (by omega) (p4.2 0 (Nat.le_refl _)) (by omega) (fun hy => hf ((fin_iff (K + 2) sq hN hM hx0 hy0 hN2 hM2 hK hlim d0 hd0 dist hF (by omega)).1 hy))
    have hno : fdone (K + 1) h1 (.at g 0) (0 : Int) (0 : Int) = some (h1, (false, .nil)) := hno
    have l3 := (EG.ld p3 3).1 rfl
    rw [hno, obs]
    show FRes _ _ _ _ _ _ _ _ _ _ _ _ (br false _ (forward_j0 (K + 1) (K + 1) (.at g 0) h1))
    rw [br_false, forward_j0_eq]
    simp only [np, chk_t]
    have hx : forward_l0 (K + 1) K (.at g 0) lim (0 : Int) h1 = forward_l0 (K + 1) K (.at g 0) 50 (0 : Int) h1 := by rw [hlim]
    rw [l3, obs, hx]
    have hd : d0 = 0 + 1 + (d0 - 1) := by omega
    have := fw_l0 (K + 1) (lim := lim) sq hN hM hx0 hy0 hN2 hM2 (by omega) hlim d0 hd0 dist (ρ0 := ρ0) (hs := hs) (d0 - 1) 0 ρ1 h1 A1 K hd (by omega) p2 p3 p4
    exact this
end
/-! ### lists joined -/
theorem join_ok {hs h : Hp} {r1 r2 : Rf} {L1 L2 : List Dg} (b : Blt hs h 154 TS2 r1 L1) (s2 : SlL h 154 TS2 r2 L2) : Hp.cs h 3 r2 = some ((L2.map (HTy.cc (.p TS2))).flatten, L2.length) ∧ ∃ s : Rf × Hp, Hp.app h 154 3 (L2.map (HTy.cc (.p TS2))).flatten L2.length r1 = some s ∧ Blt hs s.2 154 TS2 s.1 (L1 ++ L2) ∧ ∀ m, m < h.nx → (∀ l, r1 ≠ .at m 0 l) → s.2.ob m = h.ob m := by
  refine ⟨s2.cs, ?_⟩
  obtain ⟨hk, hf, hL⟩ := b
  cases L2 with
  | nil =>
    rcases hL with ⟨rfl, rfl⟩ | ⟨hne, n, hn0, hn, rfl, ho⟩
    · exact ⟨_, rfl, ⟨hk, hf, .inl ⟨rfl, rfl⟩⟩, fun m hm _ => rfl⟩
    · have hob : h.ob n = some (.cells 154 TS2.sz (L1.map (HTy.cc (.p TS2))).flatten) := ho
      have hfl := flat_len TS2 L1
      refine ⟨(.at n 0 (L1.length + 0), h.set n (some (.cells 154 3 ((L1.map (HTy.cc (.p TS2))).flatten.take (0 + L1.length * 3) ++ [] ++ (L1.map (HTy.cc (.p TS2))).flatten.drop (0 + (L1.length + 0) * 3))))), ?_, ⟨hk.set hn0 _, hf.set hn _, .inr ⟨by rw [List.append_nil]; exact hne, n, hn0, hn, by rw [List.append_nil L1]; rfl, ?_⟩⟩, fun m hm hr => ?_⟩
      · unfold Hp.app
        simp only [hob]
        have hz : TS2.sz = 3 := rfl
        rw [hz] at hfl ⊢
        rw [show (Nat.beq 154 154 && Nat.beq 3 3 && Nat.ble (0 + L1.length * 3) (L1.map (HTy.cc (.p TS2))).flatten.length) = true by
          rw [hfl]
          simp only [Nat.beq_refl, Bool.true_and]
          exact Nat.ble_eq_true_of_le (by omega)]
        rw [show (Nat.ble (0 + (L1.length + ([] : List Dg).length) * 3) (L1.map (HTy.cc (.p TS2))).flatten.length && (Nat.beq 0 0 || Nat.beq 3 1)) = true by
          rw [hfl]
          simp only [Nat.beq_refl, Bool.true_or, Bool.and_true, List.length_nil]
          exact Nat.ble_eq_true_of_le (by omega)]
        simp only [cond_true]
        rfl
      · unfold HO
        have e1 : ((L1.map (HTy.cc (.p TS2))).flatten.take (0 + L1.length * 3) ++ [] ++ (L1.map (HTy.cc (.p TS2))).flatten.drop (0 + (L1.length + 0) * 3)) = (L1.map (HTy.cc (.p TS2))).flatten := by
          rw [List.append_nil, show 0 + (L1.length + 0) * 3 = 0 + L1.length * 3 by omega]
          exact List.take_append_drop _ _
        rw [set_ob, if_pos rfl, e1, List.append_nil]
        rfl
      · have : m ≠ n := fun e => hr _ (by rw [e])
        show (h.set n _).ob m = _
        rw [set_ob, if_neg this]
  | cons d L2 =>
    rcases hL with ⟨rfl, rfl⟩ | ⟨hne, n, hn0, hn, rfl, ho⟩
    · refine ⟨_, rfl, ⟨hk.push _, hf.push _, .inr ⟨by simp, h.nx, hk.nx, Nat.lt_succ_self _, rfl, ?_⟩⟩, fun m hm _ => ?_⟩
      · unfold HO
        rw [push_ob, if_pos rfl]
        rfl
      · rw [push_ob, if_neg (by omega)]
    · have happ := ho.app (d :: L2) (by simp)
      refine ⟨_, happ, ⟨(hk.set hn0 none).push _, (hf.set hn none).push _, .inr ⟨by simp, h.nx, hk.nx, Nat.lt_succ_self _, by rw [List.length_append], ?_⟩⟩, fun m hm hr => ?_⟩
      · unfold HO
        rw [push_ob, if_pos (show h.nx = (h.set n none).nx from rfl)]
      · have : m ≠ n := fun e => hr _ (by rw [e])
        show ((h.set n none).push _).ob m = _
        rw [push_ob, if_neg (show ¬ m = (h.set n none).nx by show ¬ m = h.nx; omega), set_ob, if_neg this]
end Go.Proofs.Ytfglahmbnnkijaa.E
