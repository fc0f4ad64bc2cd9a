import Derived.Test.YtaabfadjemmibaaDoorVO
/- An edit of a word and a blank. -/
set_option linter.unusedVariables false
set_option linter.unusedSimpArgs false
namespace Go.Proofs.YtaabfadjemmibaaDoor.E
open Go.Ev
def Low (x : List Int) : Prop := ∀ r ∈ x, 97 ≤ r ∧ r ≤ 122
theorem Low.asc {x : List Int} (h : Low x) : Asc x := fun r hr => by have := h r hr; omega
theorem sp_asc : Asc [(32 : Int)] := fun r hr => by rw [List.mem_singleton.1 hr]; omega
/-- The score at a blank beside a letter. -/
theorem score_2 (K : Nat) {x y : List Int} {r s : Int} (hx : Asc (x ++ [r])) (hy : Asc (s :: y)) (lx : x.length ≤ 100000) (ly : y.length ≤ 100000) (h : (r = 32 ∧ 97 ≤ s ∧ s ≤ 122) ∨ (s = 32 ∧ 97 ≤ r ∧ r ≤ 122)) (hK : 20 ≤ K) :
    diffCleanupSemanticScore K (strOfRunes (x ++ [r])) (strOfRunes (s :: y)) = some 2 := by
  obtain ⟨K, rfl⟩ : ∃ m, K = m + 20 := ⟨K - 20, by omega⟩
  have sx := size_asc hx
  have sy := size_asc hy
  have lx' : (x ++ [r]).length = x.length + 1 := by simp
  have ly' : (s :: y).length = y.length + 1 := rfl
  have dl := decLast_asc (K + 19) hx (by rw [lx']; omega) (by rw [lx']; omega) (by omega)
  have e1 : (x ++ [r])[(x ++ [r]).length - 1]'(by rw [lx']; omega) = r := by simp
  rw [e1] at dl
  rw [diffCleanupSemanticScore_eq, sx, sy, lx', ly', br_ne (by omega), eqI_f (by omega), diffCleanupSemanticScore_j0_eq, br_false, diffCleanupSemanticScore_j1_eq, dl, dec_asc _ hy (by rw [ly']; omega) (by rw [ly']; omega) (by omega)]
  simp only [Option.bind_some, List.getElem_cons_zero]
  rw [notAl_ok _ _ (by omega), notAl_ok _ _ (by omega), white_ok _ _ (by omega)]
  simp only [Option.bind_some]
  rcases h with ⟨rfl, h1, h2⟩ | ⟨rfl, h1, h2⟩
  · have a1 : notAl 32 = true := by decide
    have a2 : notAl s = false := by unfold notAl; simp [h1, h2]
    have a3 : white 32 = true := by decide
    have a4 : brk 32 = false := by decide
    rw [a1, a2, a3, br_true, diffCleanupSemanticScore_j2_eq, br_false, diffCleanupSemanticScore_j3_eq, br_true, brk_ok _ _ (by omega), a4, Option.bind_some, diffCleanupSemanticScore_j4_eq, br_false, diffCleanupSemanticScore_j5_eq, br_false, diffCleanupSemanticScore_j6_eq, br_false, diffCleanupSemanticScore_j7_eq, br_false, diffCleanupSemanticScore_j8_eq, br_false, br_false, diffCleanupSemanticScore_j9_eq, br_false, br_true, Bool.not_true, br_false, diffCleanupSemanticScore_j10_eq, br_false, br_true, diffCleanupSemanticScore_j11_eq, br_true]
  · have a1 : notAl 32 = true := by decide
    have a2 : notAl r = false := by unfold notAl; simp [h1, h2]
    have a3 : white 32 = true := by decide
    have a4 : brk 32 = false := by decide
    rw [a1, a2, br_false, diffCleanupSemanticScore_j2_eq, br_true, white_ok _ _ (by omega), a3, Option.bind_some, diffCleanupSemanticScore_j3_eq, br_false, diffCleanupSemanticScore_j4_eq, br_true, brk_ok _ _ (by omega), a4, Option.bind_some, diffCleanupSemanticScore_j5_eq, br_false, diffCleanupSemanticScore_j6_eq, br_false, diffCleanupSemanticScore_j7_eq, br_false, diffCleanupSemanticScore_j8_eq, br_false, br_false, diffCleanupSemanticScore_j9_eq, br_false, br_false, diffCleanupSemanticScore_j10_eq, br_false, br_false, diffCleanupSemanticScore_j11_eq, br_true]
theorem l1_stop (K k : Nat) (i0 : Int) (X : List TS1.den) (L : List TS2.den) (x5 : Int) (a p q r : ByteArray) (u v : Int) (e c : List Int) (s : Int) (he : Asc (u :: e)) (hc : Asc (v :: c)) (le : e.length ≤ 100000) (lc : c.length ≤ 100000) (huv : u ≠ v) (hK : 20 ≤ K) :
    DiffCleanupSemanticLossless_l1 K (k + 2) i0 X L x5 a (strOfRunes (u :: e)) (strOfRunes (v :: c)) p q r s = DiffCleanupSemanticLossless_j4 K k i0 X L x5 p q r := by
  have se := size_asc he
  have sc := size_asc hc
  simp only [List.length_cons] at se sc
  rw [DiffCleanupSemanticLossless_l1_eq, se, sc, br_not, br_ne (by omega), br_not, br_ne (by omega), DiffCleanupSemanticLossless_j3_eq, dec_asc _ he (by simp) (by simp; omega) (by omega)]
  simp only [Option.bind_some, List.getElem_cons_zero]
  have e1 : (List.drop (Int.toNat 0) (u :: e)).take (Int.toNat 1 - Int.toNat 0) = [u] := rfl
  have e2 : (List.drop (Int.toNat 0) (v :: c)).take (Int.toNat 1 - Int.toNat 0) = [v] := rfl
  have hu : Asc [u] := fun z hz => he z (by rw [List.mem_singleton.1 hz]; simp)
  have hv : Asc [v] := fun z hz => hc z (by rw [List.mem_singleton.1 hz]; simp)
  rw [sc, se, br_ge (by omega), chk_le (by omega), chk_le (by omega), chk_le (by omega), chk_le (by omega), chk_le (by omega), chk_le (by omega), ext_asc he, ext_asc hc, e1, e2, eqS_asc hu hv, decide_eq_false (fun e => huv (by injection e)), Bool.not_false, br_true]
theorem l1_go (K k : Nat) (i0 : Int) (X : List TS1.den) (L : List TS2.den) (x5 : Int) (p q r : ByteArray) (u : Int) (a e c : List Int) (s s1 s2 : Nat) (ha : Asc a) (he : Asc (u :: e)) (hc : Asc (u :: c)) (la : a.length ≤ 100000) (le : e.length ≤ 100000) (lc : c.length ≤ 100000) (hK : 20 ≤ K)
    (h1 : diffCleanupSemanticScore K (strOfRunes (a ++ [u])) (strOfRunes (e ++ [u])) = some (s1 : Int)) (h2 : diffCleanupSemanticScore K (strOfRunes (e ++ [u])) (strOfRunes c) = some (s2 : Int)) (l1 : s1 ≤ 6) (l2 : s2 ≤ 6) (hs : s ≤ s1 + s2) :
    DiffCleanupSemanticLossless_l1 K (k + 3) i0 X L x5 (strOfRunes a) (strOfRunes (u :: e)) (strOfRunes (u :: c)) p q r (s : Int) = DiffCleanupSemanticLossless_l1 K k i0 X L x5 (strOfRunes (a ++ [u])) (strOfRunes (e ++ [u])) (strOfRunes c) (strOfRunes (a ++ [u])) (strOfRunes (e ++ [u])) (strOfRunes c) ((s1 + s2 : Nat) : Int) := by
  have sa := size_asc ha
  have se := size_asc he
  have sc := size_asc hc
  simp only [List.length_cons] at se sc
  have hu : Asc [u] := fun z hz => he z (by rw [List.mem_singleton.1 hz]; simp)
  have he' : Asc e := fun z hz => he z (List.mem_cons_of_mem _ hz)
  have hc' : Asc c := fun z hz => hc z (List.mem_cons_of_mem _ hz)
  rw [DiffCleanupSemanticLossless_l1_eq, se, sc, br_not, br_ne (by omega), br_not, br_ne (by omega), DiffCleanupSemanticLossless_j3_eq, dec_asc _ he (by simp) (by simp; omega) (by omega)]
  simp only [Option.bind_some, List.getElem_cons_zero]
  have e1 : (List.drop (Int.toNat 0) (u :: e)).take (Int.toNat 1 - Int.toNat 0) = [u] := rfl
  have e2 : (List.drop (Int.toNat 0) (u :: c)).take (Int.toNat 1 - Int.toNat 0) = [u] := rfl
  rw [sc, se, br_ge (by omega), chk_le (by omega), chk_le (by omega), chk_le (by omega), chk_le (by omega), chk_le (by omega), chk_le (by omega), ext_asc he, ext_asc hc, e1, e2, eqS_asc hu hu, decide_eq_true rfl, Bool.not_true, br_false, DiffCleanupSemanticLossless_j5_eq, ext_asc he, ext_asc hc, ext_asc hc, ext_asc he, sc, se, sa, e1, e2]
  have e3 : (List.drop (Int.toNat 1) (u :: e)).take (Int.toNat ((e.length + 1 : Nat) : Int) - Int.toNat 1) = e := by
    show e.take (Int.toNat ((e.length + 1 : Nat) : Int) - Int.toNat 1) = e
    exact List.take_of_length_le (by omega)
  have e4 : (List.drop (Int.toNat 1) (u :: c)).take (Int.toNat ((c.length + 1 : Nat) : Int) - Int.toNat 1) = c := by
    show c.take (Int.toNat ((c.length + 1 : Nat) : Int) - Int.toNat 1) = c
    exact List.take_of_length_le (by omega)
  rw [e3, e4, app_asc, app_asc, size_asc hu, size_asc he', h1, h2]
  simp only [Option.bind_some, List.length_singleton]
  have w : IntKind.i64.wrap ((s1 : Int) + (s2 : Int)) = ((s1 + s2 : Nat) : Int) := by rw [wrap_id (by omega) (by omega)]; omega
  rw [w, chk_le (by omega), chk_le (by omega), chk_le (by omega), chk_nle (by omega), chk_le (by omega), chk_le (by omega), chk_le (by omega), chk_le (by omega), chk_le (by omega), chk_le (by omega), chk_nle (by omega), chk_le (by omega), chk_le (by omega), chk_le (by omega), br_le (by omega)]
/-- From the leftmost place the blank moves behind the word. -/
theorem word_j2 (K k : Nat) (i0 : Int) (X : List TS1.den) (L : List TS2.den) (x5 : Int) (o w u : List Int) (ho : Low o) (hw : Low w) (hu : Low u) (no : o ≠ []) (nw : w ≠ []) (nu : u ≠ []) (lo : o.length ≤ 12) (lw : w.length ≤ 12) (lu : u.length ≤ 12) (hd : w.head? ≠ u.head?) (hK : 20 ≤ K) :
    DiffCleanupSemanticLossless_j2 K (k + 6) i0 X L x5 (strOfRunes o) (strOfRunes (32 :: w)) (strOfRunes (32 :: u)) = DiffCleanupSemanticLossless_j4 K k i0 X L x5 (strOfRunes (o ++ [32])) (strOfRunes (w ++ [32])) (strOfRunes u) := by
  obtain ⟨o', r1, rfl⟩ : ∃ o' r, o = o' ++ [r] := ⟨_, _, (List.dropLast_concat_getLast no).symm⟩
  obtain ⟨w1, w', rfl⟩ := List.exists_cons_of_ne_nil nw
  obtain ⟨u1, u', rfl⟩ := List.exists_cons_of_ne_nil nu
  obtain ⟨w'', r2, hw2⟩ : ∃ w'' r, w1 :: w' = w'' ++ [r] := ⟨_, _, (List.dropLast_concat_getLast nw).symm⟩
  have c1 := ho r1 (by simp)
  have c2 := hw w1 (by simp)
  have c3 := hu u1 (by simp)
  have c4 := hw r2 (by rw [hw2]; simp)
  have aw : Asc (32 :: w1 :: w') := sp_asc.app hw.asc
  have au : Asc (32 :: u1 :: u') := sp_asc.app hu.asc
  have aw2' : Asc ((w1 :: w') ++ [32]) := hw.asc.app sp_asc
  have aw2 : Asc (w1 :: (w' ++ [32])) := by rw [← List.cons_append]; exact aw2'
  have ao2 : Asc (o' ++ [r1] ++ [32]) := ho.asc.app sp_asc
  simp only [List.length_append, List.length_cons, List.length_nil] at lo lw lu
  have lw2 := congrArg List.length hw2
  simp only [List.length_append, List.length_cons, List.length_nil] at lw2
  have s1 := score_2 K (x := o') (y := w1 :: w') (r := r1) (s := 32) ho.asc aw (by omega) (by simp; omega) (.inr ⟨rfl, c1⟩) hK
  have s2 : diffCleanupSemanticScore K (strOfRunes (32 :: w1 :: w')) (strOfRunes (32 :: u1 :: u')) = some 2 := by
    have := score_2 K (x := 32 :: w'') (y := u1 :: u') (r := r2) (s := 32) (by rw [List.cons_append, ← hw2]; exact aw) au (by simp; omega) (by simp; omega) (.inr ⟨rfl, c4⟩) hK
    rwa [List.cons_append, ← hw2] at this
  have s3 := score_2 K (x := o' ++ [r1]) (y := w' ++ [32]) (r := 32) (s := w1) ao2 aw2 (by simp; omega) (by simp; omega) (.inl ⟨rfl, c2⟩) hK
  rw [← List.cons_append] at s3
  have s4 := score_2 K (x := w1 :: w') (y := u') (r := 32) (s := u1) aw2' hu.asc (by simp; omega) (by omega) (.inl ⟨rfl, c3⟩) hK
  rw [DiffCleanupSemanticLossless_j2_eq, s1, s2]
  simp only [Option.bind_some]
  rw [show IntKind.i64.wrap (2 + 2) = ((4 : Nat) : Int) by rw [wrap_id (by omega) (by omega)]; rfl]
  rw [l1_go K (k + 2) i0 X L x5 _ _ _ 32 (o' ++ [r1]) (w1 :: w') (u1 :: u') 4 2 2 ho.asc aw au (by simp; omega) (by simp; omega) (by simp; omega) hK s3 s4 (by omega) (by omega) (by omega)]
  rw [List.cons_append]
  exact l1_stop K k i0 X L x5 _ _ _ _ w1 u1 (w' ++ [32]) u' _ aw2 hu.asc (by simp; omega) (by omega) (fun h => hd (by rw [h]; rfl)) hK
/-- Both lists become one. -/
theorem word_less (K : Nat) (X : TS1.den) (t : Int) (o w u : List Int) (ho : Low o) (hw : Low w) (hu : Low u) (no : o ≠ []) (nw : w ≠ []) (nu : u ≠ []) (lo : o.length ≤ 12) (lw : w.length ≤ 12) (lu : u.length ≤ 12) (hd : w.head? ≠ u.head?) (hl : o.getLast? ≠ w.getLast?) (hK : 100 ≤ K) :
    DiffCleanupSemanticLossless K X (enc [(0, o), (t, 32 :: w), (0, 32 :: u)]) = some (enc [(0, o ++ [32]), (t, w ++ [32]), (0, u)]) ∧
    DiffCleanupSemanticLossless K X (enc [(0, o ++ [32]), (t, w ++ [32]), (0, u)]) = some (enc [(0, o ++ [32]), (t, w ++ [32]), (0, u)]) := by
  obtain ⟨K, rfl⟩ : ∃ m, K = m + 12 := ⟨K - 12, by omega⟩
  have aw : Asc (32 :: w) := sp_asc.app hw.asc
  have au : Asc (32 :: u) := sp_asc.app hu.asc
  have aw2 : Asc (w ++ [32]) := hw.asc.app sp_asc
  have ao2 : Asc (o ++ [32]) := ho.asc.app sp_asc
  have pu := List.length_pos_iff.2 nu
  have c0 : csl o w = 0 := by
    obtain ⟨o', r1, rfl⟩ : ∃ o' r, o = o' ++ [r] := ⟨_, _, (List.dropLast_concat_getLast no).symm⟩
    obtain ⟨w', r2, rfl⟩ : ∃ w' r, w = w' ++ [r] := ⟨_, _, (List.dropLast_concat_getLast nw).symm⟩
    unfold csl
    have : r1 ≠ r2 := fun e => hl (by simp [e])
    simp [cpl, this]
  have c1 : csl o (32 :: w) = 0 := by
    obtain ⟨w', r2, rfl⟩ : ∃ w' r, w = w' ++ [r] := ⟨_, _, (List.dropLast_concat_getLast nw).symm⟩
    obtain ⟨o', r1, rfl⟩ : ∃ o' r, o = o' ++ [r] := ⟨_, _, (List.dropLast_concat_getLast no).symm⟩
    have : r1 ≠ r2 := fun e => hl (by simp [e])
    unfold csl
    rw [show 32 :: (w' ++ [r2]) = (32 :: w') ++ [r2] from rfl]
    rw [List.reverse_append, List.reverse_append]
    simp [cpl, this]
  have c2 : csl (o ++ [32]) (w ++ [32]) = 1 := by
    unfold csl at c0 ⊢
    rw [List.reverse_append, List.reverse_append]
    simp [cpl, c0]
  have w1 : IntKind.i64.wrap (((3 : Nat) : Int) - 1) = 2 := by rw [wrap_id (by omega) (by omega)]; rfl
  have w2 : IntKind.i64.wrap ((1 : Int) - 1) = 0 := by rw [wrap_id (by omega) (by omega)]; rfl
  have w3 : IntKind.i64.wrap ((1 : Int) + 1) = 2 := by rw [wrap_id (by omega) (by omega)]; rfl
  -- the round up to the search
  have start : ∀ (x y z : List Int), DiffCleanupSemanticLossless (K + 12) X (enc [(0, x), (t, y), (0, z)]) = DiffCleanupSemanticLossless_j1 (K + 11) (K + 9) 0 [X] (enc [(0, x), (t, y), (0, z)]) 1 true := by
    intro x y z
    have hl : (enc [(0, x), (t, y), (0, z)]).length = 3 := rfl
    have e0 : nth TS2 (enc [(0, x), (t, y), (0, z)]) 0 = (0, strOfRunes x) := rfl
    have e2 : nth TS2 (enc [(0, x), (t, y), (0, z)]) 2 = (0, strOfRunes z) := rfl
    rw [DiffCleanupSemanticLossless_eq, DiffCleanupSemanticLossless_l0_eq, hl, w1, br_lt (by omega), DiffCleanupSemanticLossless_j0_eq, hl, w2, w3, e0, e2]
    simp only []
    rw [chk_le (by omega), chk_lt (by omega), br_eq rfl, chk_le (by omega), chk_lt (by omega), eqI_t rfl]
  have stop : ∀ (k : Nat) (x y z : List Int), DiffCleanupSemanticLossless_l0 (K + 11) (k + 1) 0 [X] (enc [(0, x), (t, y), (0, z)]) 2 = some (enc [(0, x), (t, y), (0, z)]) := by
    intro k x y z
    have hl : (enc [(0, x), (t, y), (0, z)]).length = 3 := rfl
    rw [DiffCleanupSemanticLossless_l0_eq, hl, w1, br_ge (by omega)]
  have suf : ∀ (x y : List Int), Okl x → Okl y → x.length ≤ 20 → y.length ≤ 20 → DiffCommonSuffix (K + 11) X (strOfRunes x) (strOfRunes y) = some ((csl x y : Nat) : Int) := by
    intro x y hx hy lx ly
    rw [DiffCommonSuffix_eq, runesI_of hx, runesI_of hy, chk_nle (by omega), chk_nle (by omega), csl_ok (K + 10) x y (by omega) (by omega) (by omega)]
    rfl
  have hX : nth TS1 [X] 0 = X := rfl
  constructor
  · have hl : (enc [(0, o), (t, 32 :: w), (0, 32 :: u)]).length = 3 := rfl
    have e0 : nth TS2 (enc [(0, o), (t, 32 :: w), (0, 32 :: u)]) 0 = (0, strOfRunes o) := rfl
    have e1 : nth TS2 (enc [(0, o), (t, 32 :: w), (0, 32 :: u)]) 1 = (t, strOfRunes (32 :: w)) := rfl
    have e2 : nth TS2 (enc [(0, o), (t, 32 :: w), (0, 32 :: u)]) 2 = (0, strOfRunes (32 :: u)) := rfl
    rw [start, DiffCleanupSemanticLossless_j1_eq, br_true, w2, w3, hl, e0, e1, e2, hX]
    simp only []
    rw [suf o (32 :: w) ho.asc.okl aw.okl (by omega) (by simp; omega), c1, chk_le (by omega), chk_lt (by omega), chk_le (by omega), chk_lt (by omega), chk_le (by omega), chk_lt (by omega)]
    simp only [Option.bind_some]
    rw [br_ge (by omega)]
    obtain ⟨K', rfl⟩ : ∃ m, K = m + 10 := ⟨K - 10, by omega⟩
    rw [word_j2 (K' + 10 + 11) (K' + 12) 0 [X] _ 1 o w u ho hw hu no nw nu lo lw lu hd (by omega), DiffCleanupSemanticLossless_j4_eq, w2, hl, e0, chk_le (by omega), chk_lt (by omega), eqS_asc ho.asc ao2, decide_eq_false (fun h => by have := congrArg List.length h; simp at this), Bool.not_false, br_true, size_asc ao2, br_not, br_ne (by simp; omega), chk_le (by omega), chk_lt (by omega)]
    have st0 : (enc [(0, o), (t, 32 :: w), (0, 32 :: u)]).set (Int.toNat 0) (0, strOfRunes (o ++ [32])) = enc ([(0, o ++ [32])] ++ (t, 32 :: w) :: (0, 32 :: u) :: []) := rfl
    rw [st0]
    have h6 := j6L (K' + 10 + 11) (K' + 10) 0 [X] [(0, o ++ [32])] [] t (32 :: w) (32 :: u) (w ++ [32]) u hu.asc (by simp) (by omega)
    rw [if_neg nu, if_neg nu] at h6
    have h6' : DiffCleanupSemanticLossless_j6 (K' + 10 + 11) (K' + 11) 0 [X] (enc ([(0, o ++ [32])] ++ (t, 32 :: w) :: (0, 32 :: u) :: [])) 1 (strOfRunes (w ++ [32])) (strOfRunes u) = DiffCleanupSemanticLossless_l0 (K' + 10 + 11) (K' + 10) 0 [X] (enc [(0, o ++ [32]), (t, w ++ [32]), (0, u)]) 2 := h6
    rw [h6']
    exact stop (K' + 9) _ _ _
  · have hl : (enc [(0, o ++ [32]), (t, w ++ [32]), (0, u)]).length = 3 := rfl
    have e0 : nth TS2 (enc [(0, o ++ [32]), (t, w ++ [32]), (0, u)]) 0 = (0, strOfRunes (o ++ [32])) := rfl
    have e1 : nth TS2 (enc [(0, o ++ [32]), (t, w ++ [32]), (0, u)]) 1 = (t, strOfRunes (w ++ [32])) := rfl
    have e2 : nth TS2 (enc [(0, o ++ [32]), (t, w ++ [32]), (0, u)]) 2 = (0, strOfRunes u) := rfl
    have lo2 : (o ++ [(32 : Int)]).length = o.length + 1 := by simp
    have lw2 : (w ++ [(32 : Int)]).length = w.length + 1 := by simp
    rw [start, DiffCleanupSemanticLossless_j1_eq, br_true, w2, w3, hl, e0, e1, e2, hX]
    simp only []
    rw [suf (o ++ [32]) (w ++ [32]) ao2.okl aw2.okl (by omega) (by omega), c2, chk_le (by omega), chk_lt (by omega), chk_le (by omega), chk_lt (by omega), chk_le (by omega), chk_lt (by omega)]
    simp only [Option.bind_some]
    rw [br_lt (by omega), size_asc ao2, size_asc aw2, size_asc hu.asc, lo2, lw2]
    have v1 : IntKind.i64.wrap (((w.length + 1 : Nat) : Int) - ((1 : Nat) : Int)) = (w.length : Int) := by rw [wrap_id (by omega) (by omega)]; omega
    have v2 : IntKind.i64.wrap (((o.length + 1 : Nat) : Int) - ((1 : Nat) : Int)) = (o.length : Int) := by rw [wrap_id (by omega) (by omega)]; omega
    rw [v1, v2, ext_asc aw2, ext_asc aw2, ext_asc ao2]
    simp only [Int.toNat_natCast, show Int.toNat 0 = 0 from rfl, List.drop_zero, Nat.sub_zero]
    have d1 : ((w ++ [(32 : Int)]).drop w.length).take (w.length + 1 - w.length) = [32] := by rw [List.drop_left]; simp
    have d2 : (w ++ [(32 : Int)]).take w.length = w := List.take_left
    have d3 : (o ++ [(32 : Int)]).take o.length = o := List.take_left
    rw [d1, d2, d3, app_asc, app_asc, size_asc sp_asc, size_asc hw.asc]
    rw [chk_le (by omega), chk_le (by omega), chk_le (by omega), chk_le (by omega), chk_le (by omega), chk_le (by omega), chk_le (by omega), chk_le (by omega), chk_le (by omega), chk_nle (by simp; omega), chk_nle (by simp; omega)]
    obtain ⟨K', rfl⟩ : ∃ m, K = m + 10 := ⟨K - 10, by omega⟩
    have hj := word_j2 (K' + 10 + 11) (K' + 12) 0 [X] (enc [(0, o ++ [32]), (t, w ++ [32]), (0, u)]) 1 o w u ho hw hu no nw nu lo lw lu hd (by omega)
    refine Eq.trans hj ?_
    rw [DiffCleanupSemanticLossless_j4_eq, w2, hl, e0, chk_le (by omega), chk_lt (by omega), eqS_asc ao2 ao2, decide_eq_true rfl, Bool.not_true, br_false, w3]
    exact stop (K' + 10) _ _ _
end Go.Proofs.YtaabfadjemmibaaDoor.E
