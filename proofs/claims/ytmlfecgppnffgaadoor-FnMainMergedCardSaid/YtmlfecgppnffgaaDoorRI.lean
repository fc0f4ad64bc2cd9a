import Derived.Test.YtmlfecgppnffgaaDoorRH
/- diffMainRunes. -/
set_option linter.unusedVariables false
set_option linter.unusedSimpArgs false
namespace Go.Proofs.YtmlfecgppnffgaaDoor.E
open Go.Ev
def one1 (x : List Int) : List M := if x = [] then [] else [(0, x)]
theorem one1_res {a : List Int} (h : Okl a) : Res a a (one1 a) := by
  unfold one1
  by_cases ha : a = []
  · subst ha
    exact ⟨Okm.nil, Typed.nil, rfl, rfl, by simp [mc, ed_nil_left], by simp [wt, mu]⟩
  · rw [if_neg ha]
    have hl : 0 < a.length := List.length_pos_iff.2 ha
    refine ⟨ok1 h, Typed.cons (.inl rfl) Typed.nil, by simp [side], by simp [side], by simp [mc, ed_self], ?_⟩
    simp [wt, mu]
    omega
theorem main_same (K : Nat) (X : TS1.den) (a : List Int) (fl : Bool) (ha : a.length ≤ 1000000) (hK : 2 * a.length + 10 ≤ K) : diffMainRunes K X a a fl = some (enc (one1 a)) := by
  obtain ⟨K, rfl⟩ : ∃ m, K = m + 1 := ⟨K - 1, by omega⟩
  rw [diffMainRunes_eq, req_ok K a a ha (by omega), Option.bind_some, decide_eq_true rfl, br_true]
  unfold one1
  by_cases h : a = []
  · subst h
    rw [br_ge (by simp), if_pos rfl]
    rfl
  · have hl : 0 < a.length := List.length_pos_iff.2 h
    rw [br_lt (by omega), if_neg h, chk_lt (by simp)]
    rfl
section
variable (a b : List Int)
def pq : Nat := csl (a.drop (cpl a b)) (b.drop (cpl a b))
def mid (x : List Int) : List Int := (x.drop (cpl a b)).take (x.length - cpl a b - pq a b)
theorem pq_le : cpl a b + pq a b ≤ a.length ∧ cpl a b + pq a b ≤ b.length := by
  have h1 := cpl_le a b
  have h2 := csl_le (a.drop (cpl a b)) (b.drop (cpl a b))
  simp only [List.length_drop] at h2
  unfold pq
  omega
theorem mid_a : a = a.take (cpl a b) ++ (mid a b a ++ a.drop (a.length - pq a b)) := by
  have h := pq_le a b
  unfold mid
  conv => lhs; rw [← List.take_append_drop (cpl a b) a, ← List.take_append_drop (a.length - cpl a b - pq a b) (a.drop (cpl a b)), List.drop_drop, show cpl a b + (a.length - cpl a b - pq a b) = a.length - pq a b by omega]
theorem mid_b : b = a.take (cpl a b) ++ (mid a b b ++ a.drop (a.length - pq a b)) := by
  have h := pq_le a b
  have h1 := csl_drop (a.drop (cpl a b)) (b.drop (cpl a b))
  simp only [List.length_drop, List.drop_drop] at h1
  rw [show csl (a.drop (cpl a b)) (b.drop (cpl a b)) = pq a b from rfl, show cpl a b + (a.length - cpl a b - pq a b) = a.length - pq a b by omega, show cpl a b + (b.length - cpl a b - pq a b) = b.length - pq a b by omega] at h1
  rw [h1, cpl_take]
  unfold mid
  conv => lhs; rw [← List.take_append_drop (cpl a b) b, ← List.take_append_drop (b.length - cpl a b - pq a b) (b.drop (cpl a b)), List.drop_drop, show cpl a b + (b.length - cpl a b - pq a b) = b.length - pq a b by omega]
theorem mid_ed : ed a b = ed (mid a b a) (mid a b b) := by
  conv => lhs; rw [mid_a a b]
  have e := mid_b a b
  have : ∀ z : List Int, z = a.take (cpl a b) ++ (mid a b b ++ a.drop (a.length - pq a b)) → ed (a.take (cpl a b) ++ (mid a b a ++ a.drop (a.length - pq a b))) z = ed (mid a b a) (mid a b b) := by
    intro z hz
    rw [hz, ed_pre, ed_suf]
  exact this b e
theorem mid_cpl : cpl (mid a b a) (mid a b b) = 0 := cpl_zero_take (cpl_drop a b) _ _
theorem mid_csl : csl (mid a b a) (mid a b b) = 0 := by
  have h := csl_take (a.drop (cpl a b)) (b.drop (cpl a b))
  simp only [List.length_drop] at h
  exact h
theorem mid_len : (mid a b a).length = a.length - cpl a b - pq a b ∧ (mid a b b).length = b.length - cpl a b - pq a b := by
  unfold mid
  simp only [List.length_take, List.length_drop]
  omega
def around (l : List M) : List M := one1 (a.take (cpl a b)) ++ l ++ one1 (a.drop (a.length - pq a b))
end
theorem one1_0 {x : List Int} (h : x = []) : one1 x = [] := if_pos h
theorem one1_1 {x : List Int} (h : x ≠ []) : one1 x = [(0, x)] := if_neg h
theorem j2_ok (K k : Nat) (X : TS1.den) (L : List TS2.den) : diffMainRunes_j2 K (k + 1) 0 [X] L = DiffCleanupMerge K X L := by
  rw [diffMainRunes_j2_eq, nth1]
  cases DiffCleanupMerge K X L <;> rfl
theorem j1_ok (K k : Nat) (X : TS1.den) (s : List Int) (l : List M) (hl : l.length ≤ 1000000) (hs : s.length ≤ 1000000) : diffMainRunes_j1 K (k + 2) 0 [X] s (enc l) = DiffCleanupMerge K X (enc (l ++ one1 s)) := by
  rw [diffMainRunes_j1_eq, br_not]
  by_cases h : s = []
  · subst h
    rw [br_eq (by rfl), j2_ok, one1_0 rfl, List.append_nil]
  · have h0 : 0 < s.length := List.length_pos_iff.2 h
    rw [br_ne (by omega), chk_lt (by rw [enc_len]; simp; omega), j2_ok, one1_1 h, enc_app]
    rfl
theorem j0_ok (K k : Nat) (X : TS1.den) (a b : List Int) (fl : Bool) (ha : a.length ≤ 100000) (hb : b.length ≤ 100000) (hK : 2 * a.length + 10 ≤ K) (lc : List M) (hlc : lc.length ≤ 900000) (hc : diffCompute K X (mid a b a) (mid a b b) fl = some (enc lc)) :
    diffMainRunes_j0 K (k + 3) 0 [X] a b fl = DiffCleanupMerge K X (enc (around a b lc)) := by
  have h1 := cpl_le a b
  have h2 := pq_le a b
  rw [diffMainRunes_j0_eq, cpl_ok K a b (by omega) (by omega), Option.bind_some]
  have e1 : (a.drop (Int.toNat (cpl a b : Int))).take (Int.toNat (a.length : Int) - Int.toNat (cpl a b : Int)) = a.drop (cpl a b) := by
    rw [Int.toNat_natCast, Int.toNat_natCast, List.take_of_length_le (by rw [List.length_drop]; omega)]
  have e2 : (b.drop (Int.toNat (cpl a b : Int))).take (Int.toNat (b.length : Int) - Int.toNat (cpl a b : Int)) = b.drop (cpl a b) := by
    rw [Int.toNat_natCast, Int.toNat_natCast, List.take_of_length_le (by rw [List.length_drop]; omega)]
  rw [e1, e2, csl_ok K _ _ (by rw [List.length_drop]; omega) (by rw [List.length_drop]; omega) (by rw [List.length_drop]; omega), Option.bind_some]
  rw [show csl (a.drop (cpl a b)) (b.drop (cpl a b)) = pq a b from rfl]
  rw [wrap_id (x := (a.length : Int) - (cpl a b : Int) - (pq a b : Int)) (by omega) (by omega), wrap_id (x := (b.length : Int) - (cpl a b : Int) - (pq a b : Int)) (by omega) (by omega)]
  simp (disch := omega) only [chk_le]
  have e3 : (a.drop (Int.toNat ((cpl a b : Int) + 0))).take (Int.toNat ((cpl a b : Int) + ((a.length : Int) - (cpl a b : Int) - (pq a b : Int))) - Int.toNat ((cpl a b : Int) + 0)) = mid a b a := by
    unfold mid
    rw [show Int.toNat ((cpl a b : Int) + 0) = cpl a b by omega, show Int.toNat ((cpl a b : Int) + ((a.length : Int) - (cpl a b : Int) - (pq a b : Int))) - cpl a b = a.length - cpl a b - pq a b by omega]
  have e4 : (b.drop (Int.toNat ((cpl a b : Int) + 0))).take (Int.toNat ((cpl a b : Int) + ((b.length : Int) - (cpl a b : Int) - (pq a b : Int))) - Int.toNat ((cpl a b : Int) + 0)) = mid a b b := by
    unfold mid
    rw [show Int.toNat ((cpl a b : Int) + 0) = cpl a b by omega, show Int.toNat ((cpl a b : Int) + ((b.length : Int) - (cpl a b : Int) - (pq a b : Int))) - cpl a b = b.length - cpl a b - pq a b by omega]
  have e5 : (a.drop (Int.toNat ((cpl a b : Int) + ((a.length : Int) - (cpl a b : Int) - (pq a b : Int))))).take (Int.toNat ((cpl a b : Int) + ((a.length : Int) - (cpl a b : Int))) - Int.toNat ((cpl a b : Int) + ((a.length : Int) - (cpl a b : Int) - (pq a b : Int)))) = a.drop (a.length - pq a b) := by
    rw [show Int.toNat ((cpl a b : Int) + ((a.length : Int) - (cpl a b : Int) - (pq a b : Int))) = a.length - pq a b by omega]
    exact List.take_of_length_le (by rw [List.length_drop]; omega)
  have e6 : (a.drop (Int.toNat 0)).take (Int.toNat (cpl a b : Int) - Int.toNat 0) = a.take (cpl a b) := by
    rw [Int.toNat_natCast]
    rfl
  rw [e3, e4, e5, e6, nth1, hc, Option.bind_some, br_not]
  unfold around
  by_cases hp : cpl a b = 0
  · rw [br_eq (by omega), j1_ok K k X _ lc (by omega) (by rw [List.length_drop]; omega), one1_0 (x := a.take (cpl a b)) (by rw [hp]; rfl)]
    rfl
  · have hne : a.take (cpl a b) ≠ [] := by
      intro e
      have := congrArg List.length e
      simp only [List.length_take, List.length_nil] at this
      omega
    rw [br_ne (by omega), chk_lt (by rw [enc_len]; simp; omega), one1_1 hne, show ([((0 : Int), strOfRunes (a.take (cpl a b)))] : List TS2.den) ++ enc lc = enc ((0, a.take (cpl a b)) :: lc) from rfl, j1_ok K k X _ _ (by simp; omega) (by rw [List.length_drop]; omega)]
    rfl
theorem around_res {a b : List Int} {lc : List M} (ha : Okl a) (h : Cmp (mid a b a) (mid a b b) lc) : Okm (around a b lc) ∧ Typed (around a b lc) ∧ side 1 (around a b lc) = a ∧ side (-1) (around a b lc) = b ∧ mc (around a b lc) = ed a b ∧ wt (around a b lc) + mu (around a b lc) + 5 ≤ 8 * (a.length + b.length) := by
  have o1 := one1_res (okl_tk ha (cpl a b))
  have o2 := one1_res (okl_dr ha (a.length - pq a b))
  have hl := mid_len a b
  have hpq := pq_le a b
  have w1 := o1.w
  have w2 := o2.w
  have w3 := h.w
  simp only [List.length_take, List.length_drop] at w1 w2
  unfold around
  refine ⟨(o1.ok.app h.ok).app o2.ok, (o1.ty.app h.ty).app o2.ty, ?_, ?_, ?_, ?_⟩
  · rw [side_app, side_app, o1.s1, h.s1, o2.s1, List.append_assoc]
    exact (mid_a a b).symm
  · rw [side_app, side_app, o1.s2, h.s2, o2.s2, List.append_assoc]
    exact (mid_b a b).symm
  · have hm := mid_ed a b
    rw [mc_app, mc_app, o1.mn, h.mn, o2.mn, ed_self, ed_self]
    omega
  · rw [wt_app, wt_app, mu_app, mu_app]
    omega
/-- A difference: it leads from one list to the other one, with the least number of edits. -/
theorem main_all (X : TS1.den) (hX : X.1 = 0) : ∀ s : Nat, s ≤ 6000 → ∃ F : Nat, ∀ (a b : List Int) (K : Nat), a.length + b.length ≤ s → Okl a → Okl b → F ≤ K → ∃ l, diffMainRunes K X a b false = some (enc l) ∧ Res a b l
  | 0, _ => ⟨10, fun a b K hs ha hb hK => by
    have h1 : a = [] := List.eq_nil_of_length_eq_zero (by omega)
    have h2 : b = [] := List.eq_nil_of_length_eq_zero (by omega)
    subst h1
    subst h2
    exact ⟨_, main_same K X [] false (by simp) (by simpa using hK), one1_res ha⟩⟩
  | s + 1, hs => by
    obtain ⟨F, hF⟩ := main_all X hX s (by omega)
    obtain ⟨G, hG⟩ := bisect_all X (s + 1) (by omega)
    obtain ⟨H, hH⟩ : ∃ H : Nat, H = F + G + 400 * (s + 1) + 1000 := ⟨_, rfl⟩
    refine ⟨H, fun a b K hab ha hb hK => ?_⟩
    by_cases he : a = b
    · subst he
      exact ⟨_, main_same K X a false (by omega) (by omega), one1_res ha⟩
    · obtain ⟨k, rfl⟩ : ∃ k, K = k + 4 := ⟨K - 4, by omega⟩
      have hml := mid_len a b
      have hed := mid_ed a b
      obtain ⟨lc, c1, c2⟩ := compute_ok k X hX (mid a b a) (mid a b b) (by omega) (okl_tk (okl_dr ha _) _) (okl_tk (okl_dr hb _) _) (by
          apply Classical.byContradiction
          intro hno
          have h1 : mid a b a = [] := Classical.byContradiction fun h => hno (.inl h)
          have h2 : mid a b b = [] := Classical.byContradiction fun h => hno (.inr h)
          rw [h1, h2, ed_nil_left] at hed
          exact he (ed_zero hed)) (mid_cpl a b) (mid_csl a b) (fun h3 => hG _ _ (k + 1) h3 (by omega) (by omega)) (by omega)
        (fun a' b' h' ha' hb' => hF a' b' k (by omega) ha' hb' (by omega))
      obtain ⟨r1, r2, r3, r4, r5, r6⟩ := around_res ha c2
      have hw := wt_len lc
      have hcw := c2.w
      rw [diffMainRunes_eq, req_ok _ a b (by omega) (by omega), Option.bind_some, decide_eq_false he, br_false, show k + 3 = k + 3 from rfl, j0_ok (k + 3) k X a b false (by omega) (by omega) (by omega) lc (by omega) c1]
      have hmu : mu (around a b lc) ≤ 8 * (a.length + b.length) := by omega
      rw [dcm_ok (mu (around a b lc) + 1) (around a b lc) (8 * (a.length + b.length)) (k + 3) X (by omega) r1 r2 (by omega) (by omega) (by omega)]
      obtain ⟨l', d1, _, d3, d4, d5, d6, _⟩ := dcm_spec (mu (around a b lc) + 1) (around a b lc) (by omega) r1 r2
      obtain ⟨_, _, _, _, _, p1, p2, _, _, _⟩ := p1_spec l' d4 d3
      have hm := dcm_mc (mu (around a b lc) + 1) (around a b lc) r1 r2
      refine ⟨_, rfl, ?_⟩
      rw [d1] at hm ⊢
      have hs1 := (d5 1 (.inl rfl)).trans r3
      have hs2 := (d5 (-1) (.inr rfl)).trans r4
      have hlow := mc_least p2
      rw [hs1, hs2] at hlow
      exact ⟨p1, p2, hs1, hs2, by omega, by omega⟩
end Go.Proofs.YtmlfecgppnffgaaDoor.E
