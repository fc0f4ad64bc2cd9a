import Derived.Test.YtmlfecgppnffgaaDoorRG
/- diffCompute. -/
set_option linter.unusedVariables false
set_option linter.unusedSimpArgs false
namespace Go.Proofs.YtmlfecgppnffgaaDoor.E
open Go.Ev
theorem cpl_nil_r (x : List Int) : cpl x [] = 0 := cpl_out _ _ (.inr rfl)
theorem cpl_zero_take {x y : List Int} (h : cpl x y = 0) (m n : Nat) : cpl (x.take m) (y.take n) = 0 := by
  cases x with
  | nil => simp [cpl]
  | cons a x =>
    cases y with
    | nil => simp [cpl_nil_r]
    | cons b y =>
      by_cases hab : a = b
      · simp [cpl, hab] at h
      · cases m with
        | zero => simp [cpl]
        | succ m =>
          cases n with
          | zero => simp [cpl_nil_r]
          | succ n => simp [cpl, hab]
theorem cpl_drop (x y : List Int) : cpl (x.drop (cpl x y)) (y.drop (cpl x y)) = 0 := by
  by_cases h1 : cpl x y < x.length
  · by_cases h2 : cpl x y < y.length
    · have := cpl_max x y h1 h2
      rw [List.drop_eq_getElem_cons h1, List.drop_eq_getElem_cons h2]
      simp [cpl, this]
    · exact cpl_out _ _ (.inr (List.drop_eq_nil_of_le (by omega)))
  · exact cpl_out _ _ (.inl (List.drop_eq_nil_of_le (by omega)))
theorem csl_take (x y : List Int) : csl (x.take (x.length - csl x y)) (y.take (y.length - csl x y)) = 0 := by
  unfold csl
  rw [List.reverse_take, List.reverse_take]
  have h := cpl_le x.reverse y.reverse
  simp only [List.length_reverse] at h
  rw [show x.length - (x.length - cpl x.reverse y.reverse) = cpl x.reverse y.reverse by omega, show y.length - (y.length - cpl x.reverse y.reverse) = cpl x.reverse y.reverse by omega]
  exact cpl_drop _ _
theorem ed_pre : ∀ (p u v : List Int), ed (p ++ u) (p ++ v) = ed u v
  | [], _, _ => rfl
  | x :: p, u, v => (ed_cons_same x (p ++ u) (p ++ v)).trans (ed_pre p u v)
theorem ed_suf (p u v : List Int) : ed (u ++ p) (v ++ p) = ed u v := by
  rw [← ed_reverse, List.reverse_append, List.reverse_append, ed_pre, ed_reverse]
theorem okl_tk {l : List Int} (h : Okl l) (n : Nat) : Okl (l.take n) := fun r hr => h r (List.mem_of_mem_take hr)
theorem okl_dr {l : List Int} (h : Okl l) (n : Nat) : Okl (l.drop n) := fun r hr => h r (List.mem_of_mem_drop hr)
/-- What a difference of two lists is. -/
structure Res (a b : List Int) (l : List M) : Prop where
  ok : Okm l
  ty : Typed l
  s1 : side 1 l = a
  s2 : side (-1) l = b
  mn : mc l = ed a b
  w : wt l + mu l ≤ 8 * (a.length + b.length) - 4
structure Cmp (a b : List Int) (l : List M) : Prop where
  ok : Okm l
  ty : Typed l
  s1 : side 1 l = a
  s2 : side (-1) l = b
  mn : mc l = ed a b
  w : wt l + mu l + 5 ≤ 8 * (a.length + b.length)
theorem ok1 {t : Int} {x : List Int} (h : Okl x) : Okm [(t, x)] := Okm.cons h Okm.nil
theorem cmp_both {a b : List Int} (ha : Okl a) (hb : Okl b) (h : ed a b = a.length + b.length) (h2 : 2 ≤ a.length + b.length) : Cmp a b [(-1, a), (1, b)] := by
  refine ⟨Okm.cons ha (ok1 hb), ?_, by simp [side], by simp [side], ?_, ?_⟩
  · intro m hm
    simp only [List.mem_cons, List.not_mem_nil, or_false] at hm
    rcases hm with rfl | rfl
    · exact .inr (.inr rfl)
    · exact .inr (.inl rfl)
  · rw [h]
    simp [mc]
  · simp [wt, mu]
    omega
theorem half_none (K : Nat) (X : TS1.den) (hX : X.1 = 0) (a b : List Int) : diffHalfMatch (K + 1) X a b = some () := by
  rw [diffHalfMatch_eq, br_le (by rw [hX]; exact Int.le_refl _)]
theorem j4_false (K k : Nat) (X : TS1.den) (a b : List Int) : diffCompute_j4 K (k + 2) 0 [X] a b false = diffBisect K X a b := by
  rw [diffCompute_j4_eq, br_false, diffCompute_j5_eq, nth1]
  cases diffBisect K X a b <;> rfl
theorem j3_ok (K k : Nat) (x y : List Int) (j : Nat) (t : Int) (hx : x.length ≤ 100000) (hj : j + y.length ≤ x.length) : diffCompute_j3 K (k + 1) x y (j : Int) t = some (enc [(t, x.take j), (0, y), (t, x.drop (j + y.length))]) := by
  rw [diffCompute_j3_eq, wrap_id (x := (j : Int) + y.length) (by omega) (by omega), show (j : Int) + y.length = ((j + y.length : Nat) : Int) by omega]
  simp (disch := omega) only [chk_le]
  rw [Int.toNat_natCast, Int.toNat_natCast, Int.toNat_natCast, show Int.toNat 0 = 0 from rfl, Nat.sub_zero, List.drop_zero, List.take_of_length_le (l := x.drop (j + y.length)) (by rw [List.length_drop]; omega)]
  rfl
theorem cut3 {x y : List Int} {j : Nat} (hj : j + y.length ≤ x.length) (he : (x.drop j).take y.length = y) : x.take j ++ (y ++ x.drop (j + y.length)) = x := by
  conv => rhs; rw [← List.take_append_drop j x, ← List.take_append_drop y.length (x.drop j), he, List.drop_drop]
theorem cmp_in {x y : List Int} {j : Nat} (hx : Okl x) (hy : Okl y) (hy0 : y ≠ []) (hx2 : 2 ≤ x.length) (hj : j + y.length ≤ x.length) (he : (x.drop j).take y.length = y) :
    Cmp x y [(-1, x.take j), (0, y), (-1, x.drop (j + y.length))] ∧ Cmp y x [(1, x.take j), (0, y), (1, x.drop (j + y.length))] := by
  have hc := cut3 hj he
  have h1 := ed_diff x y
  have hl : 0 < y.length := List.length_pos_iff.2 hy0
  have t1 : Typed [((-1 : Int), x.take j), (0, y), (-1, x.drop (j + y.length))] := by
    intro m hm
    simp only [List.mem_cons, List.not_mem_nil, or_false] at hm
    rcases hm with rfl | rfl | rfl
    · exact .inr (.inr rfl)
    · exact .inl rfl
    · exact .inr (.inr rfl)
  have t2 : Typed [((1 : Int), x.take j), (0, y), (1, x.drop (j + y.length))] := by
    intro m hm
    simp only [List.mem_cons, List.not_mem_nil, or_false] at hm
    rcases hm with rfl | rfl | rfl
    · exact .inr (.inl rfl)
    · exact .inl rfl
    · exact .inr (.inl rfl)
  have l1 := mc_least t1
  have l2 := mc_least t2
  have e1 : side 1 [((-1 : Int), x.take j), (0, y), (-1, x.drop (j + y.length))] = x := by simpa [side] using hc
  have e2 : side (-1) [((-1 : Int), x.take j), (0, y), (-1, x.drop (j + y.length))] = y := by simp [side]
  have e3 : side 1 [((1 : Int), x.take j), (0, y), (1, x.drop (j + y.length))] = y := by simp [side]
  have e4 : side (-1) [((1 : Int), x.take j), (0, y), (1, x.drop (j + y.length))] = x := by simpa [side] using hc
  rw [e1, e2] at l1
  rw [e3, e4, ed_symm] at l2
  have m1 : mc [((-1 : Int), x.take j), (0, y), (-1, x.drop (j + y.length))] = x.length - y.length := by simp [mc]; omega
  have m2 : mc [((1 : Int), x.take j), (0, y), (1, x.drop (j + y.length))] = x.length - y.length := by simp [mc]; omega
  have o : ∀ t : Int, Okm [(t, x.take j), (0, y), (t, x.drop (j + y.length))] := fun t => Okm.cons (okl_tk hx j) (Okm.cons hy (ok1 (okl_dr hx _)))
  refine ⟨⟨o _, t1, e1, e2, by omega, ?_⟩, ⟨o _, t2, e3, e4, by rw [ed_symm]; omega, ?_⟩⟩
  · simp [wt, mu]
    omega
  · simp [wt, mu]
    omega
theorem ed_single {x : List Int} {y : List Int} (hy : y.length = 1) (h : ∀ j : Nat, j + y.length ≤ x.length → (x.drop j).take y.length ≠ y) : ed x y = x.length + y.length := by
  obtain ⟨c, h1, h2, h3⟩ := ed_exists x y
  have hc := h2.length_le
  by_cases h0 : c.length = 0
  · omega
  · exfalso
    have hcy : c = y := h2.eq_of_length (by omega)
    subst hcy
    match c, hy with
    | [z], _ =>
      have hz : z ∈ x := h1.subset (by simp)
      obtain ⟨i, hi, e⟩ := List.getElem_of_mem hz
      refine h i (by simp; omega) ?_
      rw [List.drop_eq_getElem_cons hi, e]
      rfl
theorem split_ok (K : Nat) (X : TS1.den) (a b : List Int) (x y : Nat) (hx : x ≤ a.length) (hy : y ≤ b.length) (ha : a.length ≤ 100000) (hb : b.length ≤ 100000) :
    diffBisectSplit (K + 1) X a b (x : Int) (y : Int) = (diffMainRunes K X (a.take x) (b.take y) false).bind fun t1 => (diffMainRunes K X (a.drop x) (b.drop y) false).bind fun t2 => chk (ltI ((List.length t1 : Int) + (List.length t2 : Int)) 1000000000000) (some (t1 ++ t2)) := by
  rw [diffBisectSplit_eq]
  simp (disch := omega) only [chk_le]
  simp only [Int.toNat_natCast, show Int.toNat 0 = 0 from rfl, Nat.sub_zero, List.drop_zero]
  rw [List.take_of_length_le (l := a.drop x) (by rw [List.length_drop]; omega), List.take_of_length_le (l := b.drop y) (by rw [List.length_drop]; omega)]
theorem cmp_split {a b : List Int} {x y : Nat} {l1 l2 : List M} (h1 : Res (a.take x) (b.take y) l1) (h2 : Res (a.drop x) (b.drop y) l2) (hx : x ≤ a.length) (hy : y ≤ b.length) (he : edP a b x y + edS a b x y = ed a b) (p1 : 0 < edP a b x y) (p2 : 0 < edS a b x y) : Cmp a b (l1 ++ l2) := by
  have q1 := ed_le_sum (a.take x) (b.take y)
  have q2 := ed_le_sum (a.drop x) (b.drop y)
  have w1 := h1.w
  have w2 := h2.w
  unfold edP at p1 he
  unfold edS at p2 he
  simp only [List.length_take, List.length_drop] at q1 q2 w1 w2
  refine ⟨h1.ok.app h2.ok, h1.ty.app h2.ty, ?_, ?_, ?_, ?_⟩
  · rw [side_app, h1.s1, h2.s1, List.take_append_drop]
  · rw [side_app, h1.s2, h2.s2, List.take_append_drop]
  · rw [mc_app, h1.mn, h2.mn, he]
  · rw [wt_app, mu_app]
    omega
theorem compute_ok (K : Nat) (X : TS1.den) (hX : X.1 = 0) (a b : List Int) (hl : a.length + b.length ≤ 10000) (ha : Okl a) (hb : Okl b) (hne : a ≠ [] ∨ b ≠ []) (hc : cpl a b = 0) (hs : csl a b = 0) (hB : 3 ≤ a.length + b.length → Out (K + 1) X a b (diffBisect (K + 2) X a b)) (hK : 4 * (a.length + b.length) + 20 ≤ K)
    (ih : ∀ a' b' : List Int, a'.length + b'.length < a.length + b.length → Okl a' → Okl b' → ∃ l, diffMainRunes K X a' b' false = some (enc l) ∧ Res a' b' l) : ∃ l, diffCompute (K + 3) X a b false = some (enc l) ∧ Cmp a b l := by
  rw [show K + 3 = K + 2 + 1 from rfl, diffCompute_eq]
  by_cases ha0 : a = []
  · subst ha0
    have hb0 : b ≠ [] := hne.resolve_left (fun h => h rfl)
    have hbl : 0 < b.length := List.length_pos_iff.2 hb0
    rw [br_eq (by rfl), chk_lt (by simp)]
    refine ⟨[(1, b)], rfl, ok1 hb, ?_, by simp [side], by simp [side], by simp [mc, ed_nil_left], by simp [wt, mu]; omega⟩
    intro m hm
    rw [List.mem_singleton.1 hm]
    exact .inr (.inl rfl)
  · have hal : 0 < a.length := List.length_pos_iff.2 ha0
    rw [br_ne (by omega)]
    by_cases hb0 : b = []
    · subst hb0
      rw [br_eq (by rfl), chk_lt (by simp)]
      refine ⟨[(-1, a)], rfl, ok1 ha, ?_, by simp [side], by simp [side], by simp [mc, ed_nil_right], by simp [wt, mu]; omega⟩
      intro m hm
      rw [List.mem_singleton.1 hm]
      exact .inr (.inr rfl)
    · have hbl : 0 < b.length := List.length_pos_iff.2 hb0
      have h2T := ed_two a b ha0 hb0 hc hs
      rw [br_ne (by omega)]
      obtain ⟨k, rfl⟩ : ∃ k, K = k + 5 := ⟨K - 5, by omega⟩
      -- the bisection
      have bis : 3 ≤ a.length + b.length → ∃ l, diffBisect (k + 5 + 2) X a b = some (enc l) ∧ Cmp a b l := by
        intro h3
        rcases hB h3 with ⟨e1, e2⟩ | ⟨x, y, hx, hy, e1, e2, e3⟩
        · exact ⟨_, e1, cmp_both ha hb e2 (by omega)⟩
        · obtain ⟨p1, p2⟩ := e2 h2T
          have q1 := ed_le_sum (a.take x) (b.take y)
          have q2 := ed_le_sum (a.drop x) (b.drop y)
          have p1' := p1
          have p2' := p2
          unfold edP at p1'
          unfold edS at p2'
          simp only [List.length_take, List.length_drop] at q1 q2
          obtain ⟨l1, r1, s1⟩ := ih (a.take x) (b.take y) (by simp only [List.length_take]; omega) (okl_tk ha x) (okl_tk hb y)
          obtain ⟨l2, r2, s2⟩ := ih (a.drop x) (b.drop y) (by simp only [List.length_drop]; omega) (okl_dr ha x) (okl_dr hb y)
          have w1 := s1.w
          have w2 := s2.w
          have v1 := wt_len l1
          have v2 := wt_len l2
          simp only [List.length_take, List.length_drop] at w1 w2
          refine ⟨l1 ++ l2, ?_, cmp_split s1 s2 hx hy e1 p1 p2⟩
          rw [e3, split_ok _ X a b x y hx hy (by omega) (by omega), r1, Option.bind_some, r2, Option.bind_some, chk_lt (by rw [enc_len, enc_len]; omega), enc_app]
      rw [show k + 5 + 2 = k + 6 + 1 from rfl, diffCompute_j0_eq]
      by_cases hlt : b.length < a.length
      · rw [br_lt (by omega), show k + 6 = k + 5 + 1 from rfl, diffCompute_j1_eq]
        rcases rix_ok (k + 5 + 1 + 1) a b (by omega) (by omega) (by omega) with ⟨e1, e2⟩ | ⟨j, e1, e2, e3⟩
        · rw [e1, Option.bind_some, br_not, br_eq (by rfl)]
          by_cases hb1 : b.length = 1
          · rw [br_eq (by omega)]
            exact ⟨_, rfl, cmp_both ha hb (ed_single hb1 e2) (by omega)⟩
          · rw [br_ne (by omega), nth1, half_none _ X hX, Option.bind_some, br_false, show k + 5 = k + 3 + 2 from rfl, j4_false]
            exact bis (by omega)
        · rw [e3, Option.bind_some, br_not, br_ne (by omega), br_lt (by omega), show k + 5 = k + 4 + 1 from rfl, j3_ok _ _ a b j _ (by omega) e1]
          exact ⟨_, rfl, (cmp_in ha hb hb0 (by omega) e1 e2).1⟩
      · rw [br_ge (by omega), show k + 6 = k + 5 + 1 from rfl, diffCompute_j2_eq]
        rcases rix_ok (k + 5 + 1 + 1) b a (by omega) (by omega) (by omega) with ⟨e1, e2⟩ | ⟨j, e1, e2, e3⟩
        · rw [e1, Option.bind_some, br_not, br_eq (by rfl)]
          by_cases hb1 : a.length = 1
          · rw [br_eq (by omega)]
            refine ⟨_, rfl, cmp_both ha hb ?_ (by omega)⟩
            rw [ed_symm, ed_single hb1 e2]
            omega
          · rw [br_ne (by omega), nth1, half_none _ X hX, Option.bind_some, br_false, show k + 5 = k + 3 + 2 from rfl, j4_false]
            exact bis (by omega)
        · have hb2 : 2 ≤ b.length := by
            apply Classical.byContradiction
            intro hno
            have h1 : b.length = 1 := by omega
            have h2 : a.length = 1 := by omega
            have hj : j = 0 := by omega
            subst hj
            rw [List.drop_zero, List.take_of_length_le (by omega)] at e2
            subst e2
            rw [ed_self] at h2T
            omega
          rw [e3, Option.bind_some, br_not, br_ne (by omega), br_ge (by omega), show k + 5 = k + 4 + 1 from rfl, j3_ok _ _ b a j _ (by omega) e1]
          exact ⟨_, rfl, (cmp_in hb ha ha0 hb2 e1 e2).2⟩
end Go.Proofs.YtmlfecgppnffgaaDoor.E
