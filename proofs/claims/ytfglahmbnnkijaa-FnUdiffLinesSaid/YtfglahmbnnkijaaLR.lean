import Derived.Test.YtfglahmbnnkijaaLQ
/- The two-sided search, whole: the diagonals lead from end to end, and are as many as can be if not too many steps are wanted. -/
set_option linter.unusedVariables false
set_option linter.unusedSimpArgs false
namespace Go.Lcs
theorem inside {E : Int → Int → Prop} {N M : Int} (hE : Box E N M) (hmin : ∀ d, FP E d N M → 100 ≤ d) {x1 x2 : Int} (h1 : FP E 50 x1 (x1 - -50)) (h2 : FP E 50 x2 (x2 - 50)) : (x1 ≤ N ∧ x1 + 50 ≤ M) ∨ (x2 ≤ N ∧ x2 - 50 ≤ M) := by
  obtain ⟨d1, p1, e1⟩ := h1.clip hE
  obtain ⟨c1, r1, l1, f1, f2, f3⟩ := p1.form
  obtain ⟨d2, p2, e2⟩ := h2.clip hE
  obtain ⟨c2, r2, l2, g1, g2, g3⟩ := p2.form
  have q1 := hmin _ (((p1.rights (N - min x1 N).toNat).downs (M - min (x1 - -50) M).toNat).cast rfl (by omega) (by omega))
  have q2 := hmin _ (((p2.rights (N - min x2 N).toNat).downs (M - min (x2 - 50) M).toNat).cast rfl (by omega) (by omega))
  omega
end Go.Lcs
namespace Go.Proofs.Ytfglahmbnnkijaa.E
open Go.Ev Go.Lcs
/-- What the two-sided search answers. -/
def SRes (h0 : Hp) (N M : Int) (Q : Int → Int → Prop) (o : Option (Hp × Rf)) : Prop := ∃ h' r R, o = some (h', r) ∧ SlL h' 154 TS2 r R ∧ Ch (EM Q N M) R 0 0 N M ∧ KeepH h0 h' ∧ FreeH h' ∧ ∀ s, Dist (EM Q N M) N M s → s ≤ 99 → 2 * dsum R = N + M - s
theorem SRes.of_t {h0 : Hp} {N M : Int} {Q : Int → Int → Prop} {s : Nat} {o : Option (Hp × Rf)} (h : TRes h0 N M Q s o) (hmin : ∀ d, FP (EM Q N M) d N M → s ≤ d) : SRes h0 N M Q o := by
  obtain ⟨h', r, R, h1, h2, h3, h4⟩ := h
  refine ⟨h', r, R, h1, h2.sl, h3, h2.1, h2.2.1, fun s' hd _ => ?_⟩
  have := Ch.least h3 hd
  have := hmin s' hd.1
  omega
section
variable (K : Nat) {h0 : Hp} {g : Nat} {i : If} {lim N M : Int} {Q : Int → Int → Prop} (sq : SeqOk h0 i N M Q) (hN : 0 ≤ N) (hM : 0 ≤ M) (hN2 : N ≤ 1000) (hM2 : M ≤ 1000) (hK : 50000000 ≤ K) (hlim : lim = 50)
include sq hN hM hN2 hM2 hK hlim
/-- Where the two sides meet, or that they do not. -/
theorem done_ok {ρ : Nat → Option Nat} {h : Hp} {A B : Nat → Option (List Int)} (e : EG ρ h0 h g i A B lim N M (N - M)) (df db : Nat) (hdf : df ≤ 50) (hdb : db ≤ 50) (fl : FL (EM Q N M) A df) (bl : BL Q N M B db) (hmin : ∀ d, FP (EM Q N M) d N M → df + db ≤ d) :
    (∃ r, twoDone K h (.at g 0) (df : Int) (db : Int) = some (h, (r, true)) ∧ SRes h0 N M Q (twolcs K h (.at g 0) (df : Int) (db : Int) r)) ∨ (∃ r, twoDone K h (.at g 0) (df : Int) (db : Int) = some (h, (r, false)) ∧ ∀ d, FP (EM Q N M) d N M → df + db + 1 ≤ d) := by
  have hE : Box (EM Q N M) N M := EM.box hN hM
  have fA : ∀ k, InR df db (N - M) k → FR (EM Q N M) df k (lv A df k) := fun k hk => fl.1 df (Nat.le_refl _) k hk.1 hk.2.1 hk.2.2.2.2.1
  have fB : ∀ k, InR df db (N - M) k → FR (Rev (EM Q N M) N M) db (N - M - k) (N - lv B db (k - (N - M))) := by
    intro k hk
    have := bl.at (k - (N - M)) hk.2.2.1 hk.2.2.2.1 hk.2.2.2.2.2
    rw [show -(k - (N - M)) = N - M - k by omega] at this
    exact this
  have bA : ∀ k, InR df db (N - M) k → 0 ≤ lv A df k ∧ 0 ≤ lv A df k - k ∧ lv A df k ≤ 5000 := by
    intro k hk
    have := FR.bd hE (fA k hk)
    omega
  have bB : ∀ k, InR df db (N - M) k → lv B db (k - (N - M)) ≤ N ∧ lv B db (k - (N - M)) - k ≤ M ∧ -5000 ≤ lv B db (k - (N - M)) := by
    intro k hk
    have := FR.bd hE.rev (fB k hk)
    omega
  obtain ⟨r, b, h1, h2, h3⟩ := twoDone_ok K e hN hM hN2 hM2 (by omega) df db hdf hdb (fl.2 df (Nat.le_refl _)) (bl.2 db (Nat.le_refl _)) bA bB (by omega)
  cases b with
  | true =>
    obtain ⟨hin, hov⟩ := h2 rfl
    refine .inl ⟨r, h1, ?_⟩
    have hx := (fA r hin).1
    have hu := (fB r hin).1
    have hu' : FP (Rev (EM Q N M) N M) db (N - lv B db (r - (N - M))) (M - (lv B db (r - (N - M)) - r)) := hu.cast rfl rfl (by omega)
    have ht := hit hE hmin hx hu' hov
    have bdA := bA r hin
    exact SRes.of_t (tl_all K e sq hN hM hN2 hM2 (by omega) hlim df db hdf hdb fl bl hmin r (r - (N - M)) (lv A df r) (lv A df r - r) (lv B db (r - (N - M))) (lv B db (r - (N - M)) - r) rfl hin rfl rfl rfl rfl ⟨ht.1, ht.2.1, ht.2.2.1, ht.2.2.2.1, ht.2.2.2.2.1, ht.2.2.2.2.2, bdA.1, bdA.2.1, hov⟩ (by omega)) hmin
  | false =>
    refine .inr ⟨r, h1, fun d p => ?_⟩
    have := hmin d p
    by_cases hd : d = df + db
    · exfalso
      subst hd
      obtain ⟨k, m1, m2, m3, m4, m5, c, m6⟩ := meet p
      obtain ⟨c1, r1, l1, f1, f2, f3⟩ := p.form
      have hin : InR df db (N - M) k := ⟨m2, m3, by omega, by omega, ⟨c, m6⟩, ⟨db + c - l1, by omega⟩⟩
      have := m1 _ (fA k hin) _ (fB k hin)
      have := h3 rfl k hin
      omega
    · omega
theorem ts_l2 (D : Nat) (hD : D + 1 ≤ 50) (B : Nat → Option (List Int)) (hs : Hp) (P : Option (Hp × Rf) → Prop) (m : Nat)
    (cont : ∀ (ρ : Nat → Option Nat) (h : Hp) (A : Nat → Option (List Int)) (k' : Nat), m ≤ k' → EG ρ h0 h g i A B lim N M (N - M) → FL (EM Q N M) A (D + 1) → P (twosided_j6 K k' (.at g 0) (D : Int) 50 (D : Int) h)) :
    ∀ (n : Nat) (k : Int) (ρ : Nat → Option Nat) (h : Hp) (A : Nat → Option (List Int)) (k' : Nat), (D : Int) - k < 2 * n → 2 * n + 1 + m ≤ k' → -(D : Int) < k → (∃ c : Int, k = ((D + 1 : Nat) : Int) - 2 * c) → EG ρ h0 h g i A B lim N M (N - M) → FL (EM Q N M) A D → A (D + 1) ≠ none → Part (EM Q N M) A (D + 1) (fun q => q < k ∨ q = ((D + 1 : Nat) : Int)) →
      P (twosided_l2 K k' (.at g 0) (D : Int) k 50 (D : Int) h) := by
  have _u0 := hlim
  have wD : IntKind.wrap IntKind.i64 ((D : Int) - 1) = (D : Int) - 1 := wrap_id (by omega) (by omega)
  have wD1 : IntKind.wrap IntKind.i64 ((D : Int) + 1) = (D : Int) + 1 := wrap_id (by omega) (by omega)
  have last : ∀ (k : Int) (ρ : Nat → Option Nat) (h : Hp) (A : Nat → Option (List Int)) (k' : Nat), 1 + m ≤ k' → (D : Int) - 1 < k → (∃ c : Int, k = ((D + 1 : Nat) : Int) - 2 * c) → EG ρ h0 h g i A B lim N M (N - M) → FL (EM Q N M) A D → A (D + 1) ≠ none → Part (EM Q N M) A (D + 1) (fun q => q < k ∨ q = ((D + 1 : Nat) : Int)) → P (twosided_l2 K k' (.at g 0) (D : Int) k 50 (D : Int) h) := by
    intro k ρ h A k' hk' hk hpar e fl hA pt
    obtain ⟨c, hc⟩ := hpar
    obtain ⟨k', rfl⟩ : ∃ q, k' = q + 1 := ⟨k' - 1, by omega⟩
    rw [twosided_l2_eq, wD, br_gt (by omega)]
    exact cont ρ h A k' (by omega) e (fl.next hA fun q q1 q2 q3 => pt q q1 q2 q3 (by obtain ⟨c', hc'⟩ := q3; omega))
  intro n
  induction n with
  | zero =>
    intro k ρ h A k' hn hk' hk0 hpar e fl hA pt
    exact last k ρ h A k' (by omega) (by omega) hpar e fl hA pt
  | succ n ih =>
    intro k ρ h A k' hn hk' hk0 hpar e fl hA pt
    by_cases hc : k ≤ (D : Int) - 1
    · obtain ⟨c, hpc⟩ := hpar
      obtain ⟨k', rfl⟩ : ∃ q, k' = q + 2 := ⟨k' - 2, by omega⟩
      have u1 : IntKind.wrap IntKind.i64 (k - 1) = k - 1 := wrap_id (by omega) (by omega)
      have u2 : IntKind.wrap IntKind.i64 (k + 1) = k + 1 := wrap_id (by omega) (by omega)
      have u3 : IntKind.wrap IntKind.i64 (k + 2) = k + 2 := wrap_id (by omega) (by omega)
      obtain ⟨h', ρ', A', kon, s2, s3, s4, s5, s6⟩ := bodyF K e sq (Int.le_refl _) (Int.le_refl _) hN hM hN2 hM2 (by omega) D k (by omega) hk0 (by omega) ⟨c, hpc⟩ fl
      have pt' := s6 _ pt
      rw [twosided_l2_eq, wD, br_le hc, twosided_j5_eq, wD1, u1, u2, u3]
      have kk := kon (fun r4 => twosided_l2 K k' (.at g 0) (D : Int) (k + 2) 50 (D : Int) r4)
      rw [show ((D + 1 : Nat) : Int) = (D : Int) + 1 by omega] at kk
      rw [kk]
      refine ih (k + 2) ρ' h' A' k' (by omega) (by omega) (by omega) ⟨c - 1, by omega⟩ s3 (fl.same fun d hd => s4 d (by omega)) s5 (fun q q1 q2 q3 hq => pt' q q1 q2 q3 ?_)
      obtain ⟨c', hc'⟩ := q3
      show (q < k ∨ q = ((D + 1 : Nat) : Int)) ∨ q = k
      omega
    · exact last k ρ h A k' (by omega) (by omega) hpar e fl hA pt
theorem ts_l4 (D : Nat) (hD : D + 1 ≤ 50) (A : Nat → Option (List Int)) (P : Option (Hp × Rf) → Prop) (m : Nat)
    (cont : ∀ (ρ : Nat → Option Nat) (h : Hp) (B : Nat → Option (List Int)) (k' : Nat), m ≤ k' → EG ρ h0 h g i A B lim N M (N - M) → BL Q N M B (D + 1) → P (twosided_l0 K k' (.at g 0) 50 ((D : Int) + 1) h)) :
    ∀ (n : Nat) (k : Int) (ρ : Nat → Option Nat) (h : Hp) (B : Nat → Option (List Int)) (k' : Nat), (D : Int) - k < 2 * n → 2 * n + 1 + m ≤ k' → -(D : Int) < k → (∃ c : Int, k = ((D + 1 : Nat) : Int) - 2 * c) → EG ρ h0 h g i A B lim N M (N - M) → BL Q N M B D → B (D + 1) ≠ none → PartB Q N M B (D + 1) (fun q => q < k ∨ q = ((D + 1 : Nat) : Int)) →
      P (twosided_l4 K k' (.at g 0) (D : Int) k 50 (D : Int) h) := by
  have _u0 := hlim
  have wD : IntKind.wrap IntKind.i64 ((D : Int) - 1) = (D : Int) - 1 := wrap_id (by omega) (by omega)
  have wD1 : IntKind.wrap IntKind.i64 ((D : Int) + 1) = (D : Int) + 1 := wrap_id (by omega) (by omega)
  have last : ∀ (k : Int) (ρ : Nat → Option Nat) (h : Hp) (B : Nat → Option (List Int)) (k' : Nat), 1 + m ≤ k' → (D : Int) - 1 < k → (∃ c : Int, k = ((D + 1 : Nat) : Int) - 2 * c) → EG ρ h0 h g i A B lim N M (N - M) → BL Q N M B D → B (D + 1) ≠ none → PartB Q N M B (D + 1) (fun q => q < k ∨ q = ((D + 1 : Nat) : Int)) → P (twosided_l4 K k' (.at g 0) (D : Int) k 50 (D : Int) h) := by
    intro k ρ h B k' hk' hk hpar e bl hB pt
    obtain ⟨c, hc⟩ := hpar
    obtain ⟨k', rfl⟩ : ∃ q, k' = q + 1 := ⟨k' - 1, by omega⟩
    rw [twosided_l4_eq, wD, br_gt (by omega), wD1]
    exact cont ρ h B k' (by omega) e (bl.next hB fun q q1 q2 q3 _ => pt q q1 q2 q3 (by obtain ⟨c', hc'⟩ := q3; omega))
  intro n
  induction n with
  | zero =>
    intro k ρ h B k' hn hk' hk0 hpar e bl hB pt
    exact last k ρ h B k' (by omega) (by omega) hpar e bl hB pt
  | succ n ih =>
    intro k ρ h B k' hn hk' hk0 hpar e bl hB pt
    by_cases hc : k ≤ (D : Int) - 1
    · obtain ⟨c, hpc⟩ := hpar
      obtain ⟨k', rfl⟩ : ∃ q, k' = q + 2 := ⟨k' - 2, by omega⟩
      have u1 : IntKind.wrap IntKind.i64 (k - 1) = k - 1 := wrap_id (by omega) (by omega)
      have u2 : IntKind.wrap IntKind.i64 (k + 1) = k + 1 := wrap_id (by omega) (by omega)
      have u3 : IntKind.wrap IntKind.i64 (k + 2) = k + 2 := wrap_id (by omega) (by omega)
      obtain ⟨h', ρ', B', kon, s2, s3, s4, s5, s6⟩ := bodyB K e sq hN hM hN2 hM2 (by omega) D k (by omega) hk0 (by omega) ⟨c, hpc⟩ bl
      have pt' := s6 _ pt
      rw [twosided_l4_eq, wD, br_le hc, twosided_j12_eq, wD1, u1, u2, u3]
      have kk := kon (fun r4 => twosided_l4 K k' (.at g 0) (D : Int) (k + 2) 50 (D : Int) r4)
      rw [show ((D + 1 : Nat) : Int) = (D : Int) + 1 by omega] at kk
      rw [kk]
      refine ih (k + 2) ρ' h' B' k' (by omega) (by omega) (by omega) ⟨c - 1, by omega⟩ s3 (bl.same fun d hd => s4 d (by omega)) s5 (fun q q1 q2 q3 hq => pt' q q1 q2 q3 ?_)
      obtain ⟨c', hc'⟩ := q3
      show (q < k ∨ q = ((D + 1 : Nat) : Int)) ∨ q = k
      omega
    · exact last k ρ h B k' (by omega) (by omega) hpar e bl hB pt
/-! ### too many steps -/
section
variable {ρ : Nat → Option Nat} {h : Hp} {A B : Nat → Option (List Int)} (e : EG ρ h0 h g i A B lim N M (N - M)) (fl : FL (EM Q N M) A 50) (bl : BL Q N M B 50) (hmin : ∀ d, FP (EM Q N M) d N M → 100 ≤ d)
include e fl bl hmin
theorem ts_j14 (k' : Nat) (k : Int) (hk1 : -50 ≤ k) (hk2 : k ≤ 50) (hk3 : ∃ c : Int, k = 50 - 2 * c) (hin : 0 ≤ lv B 50 k ∧ 0 ≤ lv B 50 k - (k + (N - M))) {h1 : Hp} {r1 : Rf} {L1 : List Dg} {X Y : Int} (b1 : Blt h h1 154 TS2 r1 L1) (c1 : Ch (EM Q N M) L1 0 0 X Y) (hX : X ≤ N) (hY : Y ≤ M) :
    SRes h0 N M Q (twosided_j14 K (k' + 1) (.at g 0) k r1 h1) := by
  have _u0 := sq
  have _u1 := fl
  have e1 := e.grow b1.1 b1.2.1
  have l3 := (EG.ld e1 3).1 rfl
  have hE : Box (EM Q N M) N M := EM.box hN hM
  obtain ⟨h2, r2, L2, a1, a2, a3, a4⟩ := backwardlcs_ok K e1 (E := EM Q N M) (by omega) hN hM (by omega) (by omega) 50 k (by omega) hk1 hk2 hk3 bl.2 bl.1 hin.1 hin.2 (by omega)
  have b1' := Blt.more b1 a2.1 a2.2.1
  obtain ⟨d1, s, d2, d3, _⟩ := join_ok b1' a2.sl
  have g1 : ∀ d ∈ L1 ++ L2, Lcs.Good (EM Q N M) d := by
    intro d hd
    rcases List.mem_append.1 hd with hd | hd
    · exact (Ch.good c1 d hd).1
    · exact (Ch.good a3 d hd).1
  have n1 := Ch.len c1
  have n2 := Ch.len a3
  have hlen : (L1 ++ L2).length ≤ 2000 := by rw [List.length_append]; omega
  rw [twosided_j14_eq]
  simp only [np, chk_t]
  rw [l3, obs, hlim]
  show SRes _ _ _ _ (Option.bind (backwardlcs K h1 (.at g 0) ((50 : Nat) : Int) k) _)
  rw [a1, obs]
  show SRes _ _ _ _ (Option.bind (Hp.cs h2 3 r2) _)
  rw [d1, obs]
  show SRes _ _ _ _ (chk (ltI (((rlen r1 : Nat) : Int) + ((L2.length : Nat) : Int)) (1000000000000 : Int)) (Option.bind (Hp.app h2 154 3 ((L2.map (HTy.cc (.p TS2))).flatten) L2.length r1) _))
  rw [d2, obs, b1.sl.rlen, chk_lt (by omega)]
  -- fix
  obtain ⟨h3, r3, S, f1, f2, f3, f4, f5⟩ : ∃ h3 r3 S, fix K s.2 s.1 = some (h3, r3) ∧ SlL h3 154 TS2 r3 S ∧ Ch (EM Q N M) S 0 0 N M ∧ KeepH h h3 ∧ FreeH h3 := by
    obtain ⟨q, rfl⟩ : ∃ q, K = q + 1 := ⟨K - 1, by omega⟩
    rw [fix_eq, d3.sl.rlen]
    by_cases hz : ((L1 ++ L2).length : Int) = 0
    · rw [br_eq hz]
      exact ⟨s.2, .nil, [], rfl, .inl ⟨rfl, rfl⟩, ⟨hN, hM⟩, d3.1, d3.2.1⟩
    · rw [br_ne hz]
      obtain ⟨q', hq'⟩ : ∃ q', q = q' + 1 := ⟨q - 1, by omega⟩
      have j0 : fix_j0 q q s.1 s.2 = fix_j0 q (q' + 1) s.1 s.2 := by rw [← hq']
      obtain ⟨h4, z1, z2⟩ := zzSort_ok q 103 fLt (.inl ⟨rfl, rfl⟩) d3 hlen (by omega)
      have hpp := isV_perm fLt (L1 ++ L2)
      have hl4 : (isV fLt (L1 ++ L2)).reverse.length = (L1 ++ L2).length := by rw [List.length_reverse, isV_length]
      have gS : ∀ d ∈ (isV fLt (L1 ++ L2)).reverse, Lcs.Good (EM Q N M) d := fun d hd => g1 d (hpp.mem_iff.1 hd)
      generalize (isV fLt (L1 ++ L2)).reverse = S at *
      match hS : S, hl4 with
      | [], hl4 => rw [← hl4] at hz; exact absurd rfl hz
      | d :: R, hl4 =>
      have hsl := z2.sl
      -- the new list
      have hE0 : HO (Hp.new h4 154 (.p TS2) ([] : List Dg)) 154 TS2 h4.nx [] := HO.new h4 154 TS2 []
      have k1 : KeepH h4 (Hp.new h4 154 (.p TS2) ([] : List Dg)) := (KeepH.refl h4).push _
      have fr1 : FreeH (Hp.new h4 154 (.p TS2) ([] : List Dg)) := z2.2.1.push _
      have hld : Hp.ld (Hp.new h4 154 (.p TS2) ([] : List Dg)) (.p TS2) (radr 3 (Int.toNat 0) s.1) = some d := (hsl.keep k1).ld 0 (by simp)
      have hN1 : HO (Hp.new (Hp.new h4 154 (.p TS2) ([] : List Dg)) 154 (.p TS2) [d]) 154 TS2 (Hp.new h4 154 (.p TS2) ([] : List Dg)).nx [d] := HO.new _ 154 TS2 [d]
      have hE1 : HO (Hp.new (Hp.new h4 154 (.p TS2) ([] : List Dg)) 154 (.p TS2) [d]) 154 TS2 h4.nx [] := hE0.push (Nat.ne_of_lt (Nat.lt_succ_self _)) _
      have k2 : KeepH h4 (Hp.new (Hp.new h4 154 (.p TS2) ([] : List Dg)) 154 (.p TS2) [d]) := k1.push _
      have fr2 : FreeH (Hp.new (Hp.new h4 154 (.p TS2) ([] : List Dg)) 154 (.p TS2) [d]) := fr1.push _
      have hcs := hN1.cs
      have happ := hE1.app [d] (by simp)
      obtain ⟨W, hW⟩ : ∃ W, W = Hp.new (Hp.new h4 154 (.p TS2) ([] : List Dg)) 154 (.p TS2) [d] := ⟨_, rfl⟩
      have hcs : Hp.cs W 3 (.at (Nat.succ h4.nx) 0 1) = some (([d].map (HTy.cc (.p TS2))).flatten, 1) := by rw [hW]; exact hcs
      have happ : Hp.app W 154 3 ([d].map (HTy.cc (.p TS2))).flatten 1 (.at h4.nx 0 0) = some (.at W.nx 0 (0 + 1), (W.set h4.nx none).push (.cells 154 TS2.sz (([] ++ [d]).map (HTy.cc (.p TS2))).flatten)) := by rw [hW]; exact happ
      rw [← hW] at k2 fr2
      obtain ⟨V, hV⟩ : ∃ V, V = (W.set h4.nx none).push (.cells 154 TS2.sz (([] ++ [d]).map (HTy.cc (.p TS2))).flatten) := ⟨_, rfl⟩
      rw [← hV] at happ
      have hnxW : h4.nx < W.nx := by rw [hW]; exact Nat.lt_succ_of_lt (Nat.lt_succ_self _)
      have bV : Blt h4 V 154 TS2 (.at W.nx 0 1) [d] := by
        refine ⟨by rw [hV]; exact (k2.set (Nat.le_refl _) none).push _, by rw [hV]; exact (fr2.set hnxW none).push _, .inr ⟨by simp, W.nx, k2.nx, by rw [hV]; exact Nat.lt_succ_self _, rfl, ?_⟩⟩
        unfold HO
        rw [hV, push_ob, if_pos (show W.nx = (W.set h4.nx none).nx from rfl)]
        rfl
      have hs1n : ∀ n l, s.1 = .at n 0 l → n < h4.nx := by
        intro n l hh
        rcases z2.2.2 with ⟨q0, _⟩ | ⟨_, n', q1, q2, q3, q4⟩
        · cases q0
        · rw [q3] at hh
          have : n' = n := by injection hh
          omega
      have hslV : SlL V 154 TS2 s.1 (d :: R) := hsl.keep bV.1
      obtain ⟨h5, r5, y1, S', y2, y3, y4, y5⟩ := fix_l0_ok q hE (by omega) (by omega) (by omega) (hs := h4) (x0 := s.1) (L := d :: R) (by rw [hl4]; exact hlen) gS R [d] [d] (.at W.nx 0 1) V q' rfl bV hslV bV.1 hs1n ⟨fun x hx => by rw [List.mem_singleton.1 hx]; exact gS d (List.mem_cons_self ..), List.pairwise_singleton _ _⟩ (Nat.le_refl _) (by have : (d :: R).length = R.length + 1 := rfl; omega)
      refine ⟨h5, r5, S', ?_, y2, y3, (z2.1.trans y4), y5⟩
      rw [j0, fix_j0_eq, z1, obs, d3.sl.rlen, chk_le (by omega), chk_le (by omega), chk_lt (by omega), chk_le (by omega), chk_lt (by omega)]
      show Option.bind (Hp.ld (Hp.new h4 154 (.p TS2) ([] : List Dg)) (.p TS2) (radr 3 (Int.toNat 0) s.1)) _ = _
      rw [hld, obs]
      show Option.bind (Hp.cs (Hp.new (Hp.new h4 154 (.p TS2) ([] : List Dg)) 154 (.p TS2) [d]) 3 (.at (Nat.succ h4.nx) 0 1)) _ = _
      rw [← hW, hcs, obs]
      show chk _ (Option.bind (Hp.app (Hp.new (Hp.new h4 154 (.p TS2) ([] : List Dg)) 154 (.p TS2) [d]) 154 3 ([d].map (HTy.cc (.p TS2))).flatten 1 (.at h4.nx 0 0)) _) = _
      rw [← hW, happ, obs, chk_lt (by show ((0 : Nat) : Int) + ((1 : Nat) : Int) < _; omega)]
      exact y1
  rw [f1, obs]
  refine ⟨h3, r3, S, rfl, f2, f3, e.keep.trans f4, f5, fun s' hd hs' => ?_⟩
  have := hmin s' hd.1
  omega
end
end
end Go.Proofs.Ytfglahmbnnkijaa.E
