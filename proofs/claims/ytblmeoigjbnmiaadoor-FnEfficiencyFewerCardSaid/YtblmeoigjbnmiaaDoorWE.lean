import Derived.Test.YtblmeoigjbnmiaaDoorWD
/- DiffCleanupEfficiency: its loop ends, and what it comes to. -/
set_option linter.unusedVariables false
set_option linter.unusedSimpArgs false
namespace Go.Proofs.YtblmeoigjbnmiaaDoor.E
open Go.Ev
theorem set_sec (A D : List M) (x : List Int) (p : Int) (hp : p = ((A.length + 1 : Nat) : Int)) : List.set (enc (A ++ (-1, x) :: (0, x) :: D)) (Int.toNat p) ((1 : Int), (nth TS1 (enc (A ++ (-1, x) :: (0, x) :: D)) p).2) = enc (A ++ (-1, x) :: (1, x) :: D) := by
  have e1 : A ++ (-1, x) :: (0, x) :: D = (A ++ [((-1 : Int), x)]) ++ (0, x) :: D := by simp
  have e2 : A ++ (-1, x) :: (1, x) :: D = (A ++ [((-1 : Int), x)]) ++ (1, x) :: D := by simp
  have hl : p = ((A ++ [((-1 : Int), x)]).length : Int) := by rw [hp]; simp
  have a : ∀ (P : List M) (t : Int), enc (P ++ (t, x) :: D) = enc P ++ (t, strOfRunes x) :: enc D := fun P t => by rw [enc_app]; rfl
  have h0 : List.set (enc ((A ++ [((-1 : Int), x)]) ++ (0, x) :: D)) (Int.toNat p) ((1 : Int), strOfRunes x) = enc ((A ++ [((-1 : Int), x)]) ++ (1, x) :: D) := by
    rw [a, a, show Int.toNat p = (enc (A ++ [((-1 : Int), x)])).length by rw [enc_len, hl]; rfl, List.set_append_right _ _ (Nat.le_refl _), Nat.sub_self]
    rfl
  rw [e1, e2, nth_enc (A ++ [((-1 : Int), x)]) D (0, x) p hl]
  exact h0
theorem LL.cons_inv {h : Hp} : ∀ {e : Pf} {d : Nat} {ds : List Nat}, LL h e (d :: ds) → ∃ n q, e = .at n 0 ∧ h.ob n = some (.cells 69 2 [.v (.int .i64 (d : Int)), .pr q]) ∧ LL h q ds
  | .nil, _, _, hl => hl.elim
  | .at n _, _, _, ⟨hz, q, h1, h2⟩ => by subst hz; exact ⟨n, q, rfl, h1, h2⟩
theorem LL.nil_inv {h : Hp} : ∀ {e : Pf}, LL h e [] → e = .nil
  | .nil, _ => rfl
  | .at _ _, hl => hl.elim
theorem br_nil0 {R : Type} (a b : R) : br (Bool.not (pnil Pf.nil)) a b = b := rfl
theorem wrap_m1 : IntKind.wrap IntKind.i64 ((-(1 : Int)) + (1 : Int)) = ((0 : Nat) : Int) := by decide
def msr (l : List M) (p : Nat) : Nat := eqs l * (l.length + eqs l + 2) + (l.length - p)
theorem msr_step {l : List M} {p : Nat} (h : p < l.length) : msr l (p + 1) + 1 = msr l p := by unfold msr; omega
theorem msr_split {l l2 : List M} (he : eqs l2 + 1 = eqs l) (hl : l2.length = l.length + 1) (p p2 : Nat) : msr l2 p2 + 1 ≤ msr l p := by
  unfold msr
  obtain ⟨n, hn⟩ : ∃ n, eqs l2 = n := ⟨_, rfl⟩
  rw [← he, hn, hl]
  have e1 : l.length + 1 + n + 2 = l.length + (n + 1) + 2 := by omega
  rw [e1, Nat.succ_mul]
  omega
set_option maxHeartbeats 1000000 in
theorem eff_loop (K : Nat) (X : TS0.den) (hK : 8 ≤ K) : ∀ (N : Nat) (l : List M) (p : Nat) (ds : List Nat) (e : Pf) (h : Hp) (last : List Int) (pi pd qi qd ch : Bool) (k : Nat), msr l p ≤ N → EInv l p ds last pi pd qi qd → LL h e ds → Free h → Okm l → Typed l → wt l + wq l ≤ 100000 → 12 * N + 12 ≤ k →
    EffTo K X l ch last (DiffCleanupEfficiency_l0 K k 0 [X] (enc l) ch e (strOfRunes last) (p : Int) pi pd qi qd h) := by
  intro N
  induction N with
  | zero =>
    intro l p ds e h last pi pd qi qd ch k hN hI hL hF oT tT hw hk
    have hp : p = l.length := by
      have := hI.le
      unfold msr at hN
      omega
    obtain ⟨k, rfl⟩ : ∃ m, k = m + 2 := ⟨k - 2, by omega⟩
    rw [DiffCleanupEfficiency_l0_eq, enc_len, br_ge (by omega)]
    exact ⟨l, ch, k, h, rfl, oT, tT, fun _ _ => rfl, Nat.le_refl _, Nat.le_refl _, id, fun _ => rfl, fun _ _ => rfl⟩
  | succ N ih =>
    intro l p ds e h last pi pd qi qd ch k hN hI hL hF oT tT hw hk
    have hwl := wt_len l
    obtain ⟨k, rfl⟩ : ∃ m, k = m + 11 := ⟨k - 11, by omega⟩
    rw [DiffCleanupEfficiency_l0_eq, enc_len]
    by_cases hp : p = l.length
    · rw [br_ge (by omega)]
      exact ⟨l, ch, k + 9, h, rfl, oT, tT, fun _ _ => rfl, Nat.le_refl _, Nat.le_refl _, id, fun _ => rfl, fun _ _ => rfl⟩
    · have hpl : p < l.length := by
        have := hI.le
        omega
      obtain ⟨m, hm⟩ : ∃ m, l[p]? = some m := ⟨_, List.getElem?_eq_getElem hpl⟩
      have hnth := nth_mem_enc hm
      have hs := msr_step hpl
      have nxt : IntKind.wrap IntKind.i64 ((p : Int) + (1 : Int)) = ((p + 1 : Nat) : Int) := by rw [wrap_id (by omega) (by omega)]; omega
      have hmem : m ∈ l := List.mem_of_getElem? hm
      rw [br_lt (by omega), DiffCleanupEfficiency_j0_eq, enc_len, chk_le (by omega), chk_lt (by omega), hnth]
      by_cases h0 : m.1 = 0
      · have hm0 : l[p]? = some (0, m.2) := by rw [hm, ← h0]
        rw [br_eq h0, chk_le (by omega), chk_lt (by omega)]
        have none_ : ∀ pi' pd', EffTo K X l ch last (DiffCleanupEfficiency_j2 K (k + 9) 0 [X] (enc l) ch e (p : Int) pi pd pi' pd' false h) := by
          intro pi' pd'
          rw [DiffCleanupEfficiency_j2_eq, br_false, nxt]
          exact (ih l (p + 1) [] Pf.nil h [] pi pd false false ch (k + 8) (by omega) (hI.drop hm pi pd) trivial hF oT tT hw (by omega)).step (fun _ _ => rfl)
        by_cases hc : ((ByteArray.size (strOfRunes m.2) : Nat) : Int) < X.2.1
        · have hcand : EffTo K X l ch last (DiffCleanupEfficiency_j2 K (k + 9) 0 [X] (enc l) ch e (p : Int) pi pd qi qd true h) := by
            rw [DiffCleanupEfficiency_j2_eq, br_true, enc_len, chk_le (by omega), chk_lt (by omega), hnth, nxt]
            refine (ih l (p + 1) (p :: ds) (Pf.at h.nx 0) _ m.2 qi qd false false ch (k + 8) (by omega) (hI.cand hm0) (LL.box hF hL p) (LL.box_free hF _) oT tT hw (by omega)).step (fun hx _ => ?_)
            exact absurd (Int.lt_of_lt_of_le (show ((ByteArray.size (strOfRunes m.2) : Nat) : Int) < X.2.1 from hc) hx) (by omega)
          rw [br_lt (show ((ByteArray.size (m.1, strOfRunes m.2).2 : Nat) : Int) < (((nth TS0 [X] 0)).2).1 from hc)]
          cases qi with
          | true => rw [br_true]; exact hcand
          | false =>
            rw [br_false]
            cases qd with
            | true => exact hcand
            | false => exact none_ _ _
        · rw [br_ge (show (((nth TS0 [X] 0)).2).1 ≤ ((ByteArray.size (m.1, strOfRunes m.2).2 : Nat) : Int) from Int.not_lt.1 hc)]
          exact none_ _ _
      · have hm1 : m.1 = 1 ∨ m.1 = -1 := (tT m hmem).resolve_left h0
        rw [br_ne h0, chk_le (by omega), chk_lt (by omega)]
        have body : EffTo K X l ch last (DiffCleanupEfficiency_j3 K (k + 9) 0 [X] (enc l) ch e (strOfRunes last) (p : Int) pi pd (qi || decide (m.1 = 1)) (qd || decide (m.1 = -1)) h) := by
          rw [show k + 9 = (k + 5) + 4 from rfl, eff_sum]
          obtain ⟨B, hB, hB3⟩ := eff_cond K X ch e h (k + 4) (enc l) last (p : Int) pi pd (qi || decide (m.1 = 1)) (qd || decide (m.1 = -1))
          rw [hB, DiffCleanupEfficiency_j8_eq]
          cases B with
          | false =>
            rw [br_false, nxt]
            exact ih l (p + 1) ds e h last pi pd _ _ ch (k + 3 + 1 - 1) (by omega) (hI.edit hm hm1) hL hF oT tT hw (by omega)
          | true =>
            obtain ⟨hl, h3⟩ := hB3 rfl
            obtain ⟨A, B, C, ds', e1, e2, e3, e4, hcf, i1, i2, i3, hlt⟩ := hI.split hm hm1 hl
            subst e1
            obtain ⟨n, q, rfl, hob, hLq⟩ := hL.cons_inv
            have hD : (B ++ m :: C).length = B.length + (C.length + 1) := by simp
            have hlen : l.length = A.length + (B.length + (C.length + 1)) + 1 := by rw [e2]; simp; omega
            obtain ⟨k1, k2, k3, k4, k5⟩ := split_keeps A (B ++ m :: C) last
            have k6 := wq_split A (B ++ m :: C) last
            rw [← e2] at k1 k2 k3 k4 k5 k6
            have hl2 : (A ++ (-1, last) :: (1, last) :: (B ++ m :: C)).length = l.length + 1 := by rw [hlen]; simp; omega
            have w1 : IntKind.wrap IntKind.i64 ((A.length : Int) + (1 : Int)) = ((A.length + 1 : Nat) : Int) := by rw [wrap_id (by omega) (by omega)]; omega
            have hins := splice_ins K A ((0, last) :: (B ++ m :: C)) (-1, last) (by simp; omega) hK (A.length : Int) rfl
            rw [← e2] at hins
            have hlen2 : (enc (A ++ (-1, last) :: (0, last) :: (B ++ m :: C))).length = l.length + 1 := by rw [enc_len, hlen]; simp; omega
            have fin : ∀ {R}, EffTo K X (A ++ (-1, last) :: (1, last) :: (B ++ m :: C)) true [] R → EffTo K X l ch last R := fun hR => hR.split k1 (hcf h3) (by omega) hl
            rw [br_true, chk_nil n, chk_nil n, ll_data hob, obs, hins, obs, w1, hlen2, chk_le (by omega), chk_lt (by omega), chk_nil n, chk_nil n, ll_next hob, obs, set_sec A (B ++ m :: C) last _ rfl]
            have second : EffTo K X l ch last (DiffCleanupEfficiency_j9 K (k + 3) 0 [X] (enc (A ++ (-1, last) :: (1, last) :: (B ++ m :: C))) q (ByteArray.mk (List.toArray [])) (p : Int) pi pd false h) := by
              rw [DiffCleanupEfficiency_j9_eq, br_false]
              refine fin ?_
              have toStart : EffTo K X (A ++ (-1, last) :: (1, last) :: (B ++ m :: C)) true [] (DiffCleanupEfficiency_j10 K (k + 2) 0 [X] (enc (A ++ (-1, last) :: (1, last) :: (B ++ m :: C))) Pf.nil (ByteArray.mk (List.toArray [])) pi pd h) := by
                rw [DiffCleanupEfficiency_j10_eq]
                exact ih _ 0 [] Pf.nil h [] pi pd false false true (k + 1) (by have := msr_split k2 hl2 p 0; omega) i2 trivial hF (k4 oT) (k5 tT) (by omega) (by omega)
              cases ds' with
              | nil =>
                rw [hLq.nil_inv, br_nil0]
                exact toStart
              | cons d1 ds2 =>
                obtain ⟨n1, q1, rfl, hob1, hLq1⟩ := hLq.cons_inv
                rw [br_nil n1, chk_nil n1, chk_nil n1, ll_next hob1, obs]
                cases ds2 with
                | nil =>
                  rw [hLq1.nil_inv]
                  exact toStart
                | cons d2 ds3 =>
                  obtain ⟨n2, q2, rfl, hob2, hLq3⟩ := hLq1.cons_inv
                  have hd2 := hlt d2 (by simp)
                  rw [DiffCleanupEfficiency_j10_eq, br_nil n2, chk_nil n2, chk_nil n2, ll_data hob2, obs, show IntKind.wrap IntKind.i64 ((d2 : Int) + (1 : Int)) = ((d2 + 1 : Nat) : Int) by rw [wrap_id (by omega) (by omega)]; omega]
                  exact ih _ (d2 + 1) (d2 :: ds3) _ h [] pi pd false false true (k + 1) (by have := msr_split k2 hl2 p (d2 + 1); omega) (i3 d1 d2 ds3 rfl) hLq1 hF (k4 oT) (k5 tT) (by omega) (by omega)
            cases pi with
            | false => rw [br_false]; exact second
            | true =>
              rw [br_true]
              cases pd with
              | false => exact second
              | true =>
                rw [DiffCleanupEfficiency_j9_eq, br_true, nxt]
                exact fin (ih _ (p + 1) [] Pf.nil h [] true true true true true (k + 2) (by have := msr_split k2 hl2 p (p + 1); omega) i1 trivial hF (k4 oT) (k5 tT) (by omega) (by omega))
        rcases hm1 with hm1 | hm1
        · rw [br_ne (by omega)]
          have : decide (m.1 = 1) = true ∧ decide (m.1 = -1) = false := ⟨decide_eq_true hm1, decide_eq_false (by omega)⟩
          rw [this.1, this.2, Bool.or_true, Bool.or_false] at body
          exact body
        · rw [br_eq hm1]
          have : decide (m.1 = 1) = false ∧ decide (m.1 = -1) = true := ⟨decide_eq_false (by omega), decide_eq_true hm1⟩
          rw [this.1, this.2, Bool.or_true, Bool.or_false] at body
          exact body
end Go.Proofs.YtblmeoigjbnmiaaDoor.E
