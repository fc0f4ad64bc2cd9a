import Derived.Test.YtblmeoigjbnmiaaDoorYE
/- diffHalfMatch: the better of two half matches. -/
set_option linter.unusedVariables false
set_option linter.unusedSimpArgs false
namespace Go.Proofs.YtblmeoigjbnmiaaDoor.E
open Go.Ev
def Fr (h : Hp) : Prop := ∀ n, h.nx ≤ n → h.ob n = none
theorem Fr.push {h : Hp} (hf : Fr h) (o : Ev.Obj) : Fr (h.push o) := by
  intro n hn
  have hn : h.nx + 1 ≤ n := hn
  rw [push_ob, if_neg (by omega)]
  exact hf n (by omega)
def Half (h : Hp) (m : Nat) (L1 L2 : List Int) : Prop :=
  ∃ r0 r1 r2 r3 r4 : Rf, ∃ T0 T1 T2 T3 T4 : List Int, h.ob m = some (.cells 54 1 [.sr r0, .sr r1, .sr r2, .sr r3, .sr r4]) ∧ Hp.rd h (.int .i32) r0 = some T0 ∧ Hp.rd h (.int .i32) r1 = some T1 ∧ Hp.rd h (.int .i32) r2 = some T2 ∧ Hp.rd h (.int .i32) r3 = some T3 ∧ Hp.rd h (.int .i32) r4 = some T4 ∧ T0 ++ (T4 ++ T1) = L1 ∧ T2 ++ (T4 ++ T3) = L2 ∧ L1.length ≤ 2 * T4.length ∧ L2.length ≤ 2 * T4.length
theorem Half.push {h : Hp} {m : Nat} {L1 L2 : List Int} (hh : Half h m L1 L2) (hf : Fr h) (o : Ev.Obj) : Half (h.push o) m L1 L2 := by
  obtain ⟨r0, r1, r2, r3, r4, T0, T1, T2, T3, T4, h1, g0, g1, g2, g3, g4, k⟩ := hh
  have hn := hf h.nx (Nat.le_refl _)
  refine ⟨r0, r1, r2, r3, r4, T0, T1, T2, T3, T4, ?_, rd_push hn g0, rd_push hn g1, rd_push hn g2, rd_push hn g3, rd_push hn g4, k⟩
  rw [push_ob, if_neg]
  · exact h1
  · rintro rfl
    rw [hn] at h1
    cases h1
theorem new5 (h : Hp) (r0 r1 r2 r3 r4 : Rf) : Hp.new h 54 .sr [r0, r1, r2, r3, r4] = h.push (.cells 54 1 [.sr r0, .sr r1, .sr r2, .sr r3, .sr r4]) := rfl
theorem half_of {h : Hp} {a b : Nat} {La Lb : List Int} {R : Option (Hp × Rf)} (hm : HMr h a b La Lb R) (hf : Fr h) (hA : TxO h a La) (hB : TxO h b Lb) (ha : a < h.nx) (hb : b < h.nx) (hlen : Lb.length ≤ La.length) :
    (∃ h' x, R = some (h', x) ∧ Fr h' ∧ TxO h' a La ∧ TxO h' b Lb ∧ a < h'.nx ∧ b < h'.nx ∧ (x = Rf.nil ∨ ∃ m, x = .at m 0 5 ∧ Half h' m La Lb) ∧ (∀ m L1 L2, Half h m L1 L2 → Half h' m L1 L2)) := by
  rcases hm with rfl | ⟨i, s, p, j, hb0, hl, rfl⟩
  · exact ⟨h, .nil, rfl, hf, hA, hB, ha, hb, .inl rfl, fun _ _ _ h => h⟩
  · obtain ⟨b1, b2, b3, b4, b5⟩ := hb0
    have e : Hp.new h 54 .sr (five a b La Lb i s p j) = h.push (.cells 54 1 [.sr (.at a 0 (i - s)), .sr (.at a (i + p) (La.length - (i + p))), .sr (.at b 0 (j - s)), .sr (.at b (j + p) (Lb.length - (j + p))), .sr (.at b (j - s) (s + p))]) := rfl
    have hA' := hA.push ha (.cells 54 1 [.sr (.at a 0 (i - s)), .sr (.at a (i + p) (La.length - (i + p))), .sr (.at b 0 (j - s)), .sr (.at b (j + p) (Lb.length - (j + p))), .sr (.at b (j - s) (s + p))])
    have hB' := hB.push hb (.cells 54 1 [.sr (.at a 0 (i - s)), .sr (.at a (i + p) (La.length - (i + p))), .sr (.at b 0 (j - s)), .sr (.at b (j + p) (Lb.length - (j + p))), .sr (.at b (j - s) (s + p))])
    refine ⟨_, _, rfl, ?_⟩
    rw [e]
    refine ⟨hf.push _, hA', hB', Nat.lt_succ_of_lt ha, Nat.lt_succ_of_lt hb, .inr ⟨h.nx, rfl, ?_⟩, fun m L1 L2 hh => hh.push hf _⟩
    refine ⟨_, _, _, _, _, _, _, _, _, _, by rw [push_ob, if_pos rfl], rd_tx hA' 0 _ (by omega), rd_tx hA' (i + p) _ (by omega), rd_tx hB' 0 _ (by omega), rd_tx hB' (j + p) _ (by omega), rd_tx hB' (j - s) _ (by omega), ?_, ?_, ?_, ?_⟩
    · rw [List.drop_zero, b5, List.take_of_length_le (l := La.drop (i + p)) (by rw [List.length_drop]; omega)]
      have : La.drop (i + p) = (La.drop (i - s)).drop (s + p) := by rw [List.drop_drop]; congr 1; omega
      rw [this, List.take_append_drop, List.take_append_drop]
    · rw [List.drop_zero, List.take_of_length_le (l := Lb.drop (j + p)) (by rw [List.length_drop]; omega)]
      have : Lb.drop (j + p) = (Lb.drop (j - s)).drop (s + p) := by rw [List.drop_drop]; congr 1; omega
      rw [this, List.take_append_drop, List.take_append_drop]
    · rw [List.length_take, List.length_drop]; omega
    · rw [List.length_take, List.length_drop]; omega
section
variable {h : Hp} {m : Nat} {r0 r1 r2 r3 r4 : Rf} (ho : h.ob m = some (.cells 54 1 [.sr r0, .sr r1, .sr r2, .sr r3, .sr r4]))
include ho
theorem ld5_0 : Hp.ld h .sr (.at m 0) = some r0 := by unfold Hp.ld Hp.cl; simp only [ho]; rfl
theorem ld5_1 : Hp.ld h .sr (.at m 1) = some r1 := by unfold Hp.ld Hp.cl; simp only [ho]; rfl
theorem ld5_2 : Hp.ld h .sr (.at m 2) = some r2 := by unfold Hp.ld Hp.cl; simp only [ho]; rfl
theorem ld5_3 : Hp.ld h .sr (.at m 3) = some r3 := by unfold Hp.ld Hp.cl; simp only [ho]; rfl
theorem ld5_4 : Hp.ld h .sr (.at m 4) = some r4 := by unfold Hp.ld Hp.cl; simp only [ho]; rfl
end
theorem radr_at (m i : Nat) (z : Int) (hz : z = (i : Int)) : radr 1 (Int.toNat z) (.at m 0 5) = .at m i := by
  subst hz
  show Pf.at m (0 + Int.toNat (i : Int) * 1) = _
  rw [Int.toNat_natCast, Nat.mul_one, Nat.zero_add]
theorem sure5 {R : Type} (m : Nat) (o : Option R) : chk (rsure (.at m 0 5)) o = o := rfl
theorem sureN {R : Type} (o : Option R) : chk (rsure Rf.nil) o = o := rfl
theorem nil5 {R : Type} (m : Nat) (a b : R) : br (rnil (.at m 0 5)) a b = b := rfl
theorem nilN {R : Type} (a b : R) : br (rnil Rf.nil) a b = a := rfl
theorem quart0 : ∀ n : Fin 200, (floatBits .quo .f64 (floatOfInt .f64 (n.1 : Int)) 4616189618054758400).isSome = true ∧ floatToIntVal .f64 ((floatBits .quo .f64 (floatOfInt .f64 (n.1 : Int)) 4616189618054758400).getD 0) .i64 = some ((n.1 / 4 : Nat) : Int) := by decide +kernel
theorem quart (n : Fin 200) : faOkI .quo (i2fI (n.1 : Int)) 4616189618054758400 = true ∧ f2iOkI .i64 (faI .quo (i2fI (n.1 : Int)) 4616189618054758400) = true ∧ f2iI .i64 (faI .quo (i2fI (n.1 : Int)) 4616189618054758400) = ((n.1 / 4 : Nat) : Int) := by
  obtain ⟨h1, h2⟩ := quart0 n
  refine ⟨?_, ?_, ?_⟩
  · unfold faOkI i2fI
    exact @decide_eq_true _ (Classical.propDecidable _) h1
  · unfold f2iOkI faI i2fI
    exact @decide_eq_true _ (Classical.propDecidable _) (by rw [h2]; rfl)
  · unfold f2iI faI i2fI
    rw [h2]
    rfl
theorem halve0 : ∀ n : Fin 200, (floatBits .quo .f64 (floatOfInt .f64 (n.1 : Int)) 4611686018427387904).isSome = true ∧ floatToIntVal .f64 ((floatBits .quo .f64 (floatOfInt .f64 (n.1 : Int)) 4611686018427387904).getD 0) .i64 = some ((n.1 / 2 : Nat) : Int) := by decide +kernel
theorem halve (n : Fin 200) : faOkI .quo (i2fI (n.1 : Int)) 4611686018427387904 = true ∧ f2iOkI .i64 (faI .quo (i2fI (n.1 : Int)) 4611686018427387904) = true ∧ f2iI .i64 (faI .quo (i2fI (n.1 : Int)) 4611686018427387904) = ((n.1 / 2 : Nat) : Int) := by
  obtain ⟨h1, h2⟩ := halve0 n
  refine ⟨?_, ?_, ?_⟩
  · unfold faOkI i2fI
    exact @decide_eq_true _ (Classical.propDecidable _) h1
  · unfold f2iOkI faI i2fI
    exact @decide_eq_true _ (Classical.propDecidable _) (by rw [h2]; rfl)
  · unfold f2iI faI i2fI
    rw [h2]
    rfl
/-- What half matches are. -/
def DHr (L1 L2 : List Int) (R : Option (Hp × Rf)) : Prop := ∃ h' x, R = some (h', x) ∧ (x = Rf.nil ∨ ∃ m, x = .at m 0 5 ∧ Half h' m L1 L2)
theorem dh_j5 (K k : Nat) (h : Hp) (a b : Nat) (L1 L2 La Lb : List Int) (m : Nat) (hf : Fr h) (hh : Half h m La Lb) (hL : (L2.length < L1.length ∧ La = L1 ∧ Lb = L2) ∨ (¬ L2.length < L1.length ∧ La = L2 ∧ Lb = L1)) : DHr L1 L2 (diffHalfMatch_j5 K (k + 2) (.at a 0 L1.length) (.at b 0 L2.length) (.at m 0 5) h) := by
  rw [diffHalfMatch_j5_eq, rlen_at, rlen_at]
  rcases hL with ⟨hl, rfl, rfl⟩ | ⟨hl, rfl, rfl⟩
  · rw [br_lt (by omega)]
    exact ⟨h, _, rfl, .inr ⟨m, rfl, hh⟩⟩
  · rw [br_ge (by omega), diffHalfMatch_j6_eq]
    obtain ⟨r0, r1, r2, r3, r4, T0, T1, T2, T3, T4, h1, g0, g1, g2, g3, g4, k1, k2, k3, k4⟩ := hh
    rw [radr_at m 2 2 rfl, radr_at m 3 3 rfl, radr_at m 0 0 rfl, radr_at m 1 1 rfl, radr_at m 4 4 rfl, rlen_at]
    rw [chk_le (by omega), chk_lt (by omega), ld5_2 h1, obs, chk_le (by omega), chk_lt (by omega), ld5_3 h1, obs, chk_le (by omega), chk_lt (by omega), ld5_0 h1, obs, chk_le (by omega), chk_lt (by omega), ld5_1 h1, obs, chk_le (by omega), chk_lt (by omega), ld5_4 h1, obs]
    have hn := hf h.nx (Nat.le_refl _)
    refine ⟨_, _, rfl, .inr ⟨h.nx, rfl, ?_⟩⟩
    rw [new5]
    exact ⟨r2, r3, r0, r1, r4, T2, T3, T0, T1, T4, by rw [push_ob, if_pos rfl], rd_push hn g2, rd_push hn g3, rd_push hn g0, rd_push hn g1, rd_push hn g4, k2, k1, k4, k3⟩
theorem dh_ok (K : Nat) (h : Hp) (X : TS0.den) (hX : X.1 = 1000000000) (a b : Nat) (L1 L2 : List Int) (hf : Fr h) (hA : TxO h a L1) (hB : TxO h b L2) (ha : a < h.nx) (hb : b < h.nx) (l1 : L1.length ≤ 150) (l2 : L2.length ≤ 150) (hK : 3000000 ≤ K) :
    DHr L1 L2 (diffHalfMatch K h X (.at a 0 L1.length) (.at b 0 L2.length)) ∧ ((max L1.length L2.length < 4 ∨ 2 * min L1.length L2.length < max L1.length L2.length) → ∃ h', diffHalfMatch K h X (.at a 0 L1.length) (.at b 0 L2.length) = some (h', Rf.nil)) := by
  obtain ⟨K, rfl⟩ : ∃ m, K = m + 1 := ⟨K - 1, by omega⟩
  have hXi : (X.1 : Int) = 1000000000 := hX
  rw [diffHalfMatch_eq, br_gt (show (0 : Int) < X.1 by rw [hX]; decide)]
  obtain ⟨k, hk⟩ : ∃ m, K = m + 7 := ⟨K - 7, by omega⟩
  have main : ∀ (a' b' : Nat) (La Lb : List Int), TxO h a' La → TxO h b' Lb → a' < h.nx → b' < h.nx → Lb.length ≤ La.length → La.length ≤ 150 → ((L2.length < L1.length ∧ La = L1 ∧ Lb = L2) ∨ (¬ L2.length < L1.length ∧ La = L2 ∧ Lb = L1)) →
      DHr L1 L2 (diffHalfMatch_j1 K (k + 6) (0 : Int) (X :: []) (.at a 0 L1.length) (.at b 0 L2.length) (.at a' 0 La.length) (.at b' 0 Lb.length) h) ∧ ((La.length < 4 ∨ 2 * Lb.length < La.length) → ∃ h', diffHalfMatch_j1 K (k + 6) (0 : Int) (X :: []) (.at a 0 L1.length) (.at b 0 L2.length) (.at a' 0 La.length) (.at b' 0 Lb.length) h = some (h', Rf.nil)) := by
    intro a' b' La Lb hA' hB' ha' hb' hlen hla hL
    rw [diffHalfMatch_j1_eq, rlen_at, rlen_at, wrap_id (by omega) (by omega)]
    have none_ : ∃ h', diffHalfMatch_j2 K (k + 5) (0 : Int) (X :: []) (.at a 0 L1.length) (.at b 0 L2.length) (.at a' 0 La.length) (.at b' 0 Lb.length) true h = some (h', Rf.nil) := ⟨h, by rw [diffHalfMatch_j2_eq, br_true]⟩
    by_cases c1 : (La.length : Int) < 4
    · rw [br_lt c1]
      obtain ⟨h', e⟩ := none_
      rw [e]
      exact ⟨⟨h', _, rfl, .inl rfl⟩, fun _ => ⟨h', rfl⟩⟩
    · rw [br_ge (by omega)]
      by_cases c2 : (Lb.length : Int) * 2 < (La.length : Int)
      · rw [show ltI ((Lb.length : Int) * 2) (La.length : Int) = true by rw [ltI_eq]; exact decide_eq_true c2]
        obtain ⟨h', e⟩ := none_
        rw [e]
        exact ⟨⟨h', _, rfl, .inl rfl⟩, fun _ => ⟨h', rfl⟩⟩
      · rw [show ltI ((Lb.length : Int) * 2) (La.length : Int) = false by rw [ltI_eq]; exact decide_eq_false c2]
        refine ⟨?_, fun hc => by omega⟩
        rw [diffHalfMatch_j2_eq, br_false, diffHalfMatch_j3_eq, rlen_at]
        obtain ⟨q1, q2, q3⟩ := quart ⟨La.length + 3, by omega⟩
        obtain ⟨u1, u2, u3⟩ := halve ⟨La.length + 1, by omega⟩
        have w3 : IntKind.wrap IntKind.i64 ((La.length : Int) + (3 : Int)) = ((La.length + 3 : Nat) : Int) := by rw [wrap_id (by omega) (by omega)]; omega
        have w1 : IntKind.wrap IntKind.i64 ((La.length : Int) + (1 : Int)) = ((La.length + 1 : Nat) : Int) := by rw [wrap_id (by omega) (by omega)]; omega
        have ct : ∀ {R : Type} {c : Bool} (o : Option R), c = true → chk c o = o := fun o hc => by rw [hc]; rfl
        rw [w3, w1, ct _ q1, ct _ q2, q3]
        obtain ⟨h1, x9, e1, f1, A1, B1, ha1, hb1, c9, _⟩ := half_of (I_ok K h a' b' La Lb ((La.length + 3) / 4) hA' hB' (by omega) (by omega) (by omega) (by omega) (by omega)) hf hA' hB' ha' hb' hlen
        rw [e1, obs, ct _ u1, ct _ u2, u3]
        obtain ⟨h2, x10, e2, f2, A2, B2, ha2, hb2, c10, keep⟩ := half_of (I_ok K h1 a' b' La Lb ((La.length + 1) / 2) A1 B1 (by omega) (by omega) (by omega) (by omega) (by omega)) f1 A1 B1 ha1 hb1 hlen
        rw [e2, obs]
        have e3 : Hp.new h2 (54 : TypeId) .sr [] = h2.push (.cells 54 1 []) := rfl
        have f3 := f2.push (.cells 54 1 [])
        show DHr L1 L2 (chk (rsure x9) (br (rnil x9) (chk (rsure x10) (diffHalfMatch_j4 K (k + 3) (.at a 0 L1.length) (.at b 0 L2.length) x9 x10 (rnil x10) (Hp.new h2 (54 : TypeId) .sr []))) (diffHalfMatch_j4 K (k + 3) (.at a 0 L1.length) (.at b 0 L2.length) x9 x10 Bool.false (Hp.new h2 (54 : TypeId) .sr []))))
        rw [e3]
        rcases c9 with rfl | ⟨m1, rfl, hh1⟩
        · rw [sureN, nilN]
          rcases c10 with rfl | ⟨m2, rfl, hh2⟩
          · rw [sureN, diffHalfMatch_j4_eq]
            exact ⟨_, _, rfl, .inl rfl⟩
          · rw [sure5, show rnil (.at m2 0 5) = false from rfl, diffHalfMatch_j4_eq, br_false, sure5, nil5, sureN, nilN]
            exact dh_j5 K k _ a b L1 L2 La Lb m2 f3 (hh2.push f2 _) hL
        · have hh1' := (keep m1 La Lb hh1).push f2 (.cells 54 1 [])
          rw [sure5, nil5, diffHalfMatch_j4_eq, br_false]
          rcases c10 with rfl | ⟨m2, rfl, hh2⟩
          · rw [sureN, nilN]
            exact dh_j5 K k _ a b L1 L2 La Lb m1 f3 hh1' hL
          · have hh2' := hh2.push f2 (.cells 54 1 [])
            rw [sure5, nil5, sure5, nil5, radr_at m1 4 4 rfl, radr_at m2 4 4 rfl, rlen_at, rlen_at]
            obtain ⟨r0, r1, r2, r3, r4, _, _, _, _, _, o1, _⟩ := id hh1'
            obtain ⟨s0, s1, s2, s3, s4, _, _, _, _, _, o2, _⟩ := id hh2'
            rw [chk_le (by omega), chk_lt (by omega), ld5_4 o1, obs, chk_le (by omega), chk_lt (by omega), ld5_4 o2, obs]
            by_cases c : ((rlen s4 : Nat) : Int) < ((rlen r4 : Nat) : Int)
            · rw [br_lt c]
              exact dh_j5 K k _ a b L1 L2 La Lb m1 f3 hh1' hL
            · rw [br_ge (by omega)]
              exact dh_j5 K k _ a b L1 L2 La Lb m2 f3 hh2' hL
  rw [show diffHalfMatch_j0 K K (0 : Int) (X :: []) (.at a 0 L1.length) (.at b 0 L2.length) h = diffHalfMatch_j0 K (k + 7) (0 : Int) (X :: []) (.at a 0 L1.length) (.at b 0 L2.length) h by rw [← hk], diffHalfMatch_j0_eq, rlen_at, rlen_at]
  by_cases c : (L2.length : Int) < (L1.length : Int)
  · rw [br_lt c]
    obtain ⟨g1, g2⟩ := main a b L1 L2 hA hB ha hb (by omega) l1 (.inl ⟨by omega, rfl, rfl⟩)
    exact ⟨g1, fun hc => g2 (by omega)⟩
  · rw [br_ge (by omega)]
    obtain ⟨g1, g2⟩ := main b a L2 L1 hB hA hb ha (by omega) l2 (.inr ⟨by omega, rfl, rfl⟩)
    exact ⟨g1, fun hc => g2 (by omega)⟩
end Go.Proofs.YtblmeoigjbnmiaaDoor.E
