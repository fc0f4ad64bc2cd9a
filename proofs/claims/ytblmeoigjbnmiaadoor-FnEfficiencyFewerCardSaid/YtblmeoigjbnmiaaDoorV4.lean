import Derived.Test.YtblmeoigjbnmiaaDoorV3
/- The first pass of DiffCleanupMerge. -/
set_option linter.unusedVariables false
set_option linter.unusedSimpArgs false
namespace Go.Proofs.YtblmeoigjbnmiaaDoor.E
open Go.Ev
def mk (c n : Nat) (d i : List Int) : List M := if c = 0 then [(1, i)] else if n = 0 then [(-1, d)] else [(-1, d), (1, i)]
theorem mk_len (c n : Nat) (d i : List Int) (h : 2 ≤ c + n) : (mk c n d i).length = (if c = 0 then 0 else 1) + (if n = 0 then 0 else 1) := by
  unfold mk
  by_cases hc : c = 0
  · subst hc
    rw [if_pos rfl, if_pos rfl, if_neg (by omega)]; rfl
  · by_cases hn : n = 0
    · simp [hc, hn]
    · simp [hc, hn]
theorem mk_len2 (c n : Nat) (d i : List Int) : (mk c n d i).length ≤ 2 := by
  unfold mk
  split
  · simp
  · split <;> simp
theorem j9_ok (K k : Nat) (i0 : Int) (X : List TS0.den) (L : List TS1.den) (a c n : Nat) (h : a + c + n ≤ 1000000000000) (q : Int) (hq : q = ((a + ((if c = 0 then 0 else 1) + (if n = 0 then 0 else 1)) + 1 : Nat) : Int)) :
    DiffCleanupMerge_j9 K (k + 2) i0 X L ((a + (c + n) : Nat) : Int) (c : Int) (n : Int) = DiffCleanupMerge_l0 K k i0 X L q 0 0 [] [] := by
  rw [DiffCleanupMerge_j9_eq]
  by_cases hc : c = 0
  · subst hc
    simp (disch := omega) only [chk_le, chk_lt, chk_eq, chk_nle, chk_neq, br_lt, br_ge, br_le, br_gt, br_eq, br_ne, br_not, br_true, br_false, br_and, wrap_id, obs, List.length_set, List.length_append, List.length_cons, List.length_nil, List.length_take, List.length_drop]
    rw [DiffCleanupMerge_j13_eq]
    by_cases hn : n = 0
    · subst hn
      simp (disch := omega) only [chk_le, chk_lt, chk_eq, chk_nle, chk_neq, br_lt, br_ge, br_le, br_gt, br_eq, br_ne, br_not, br_true, br_false, br_and, wrap_id, obs, List.length_set, List.length_append, List.length_cons, List.length_nil, List.length_take, List.length_drop]
      simp only [if_pos] at hq
      exact congrArg (fun q => DiffCleanupMerge_l0 K k i0 X L q 0 0 [] []) (by omega)
    · simp (disch := omega) only [chk_le, chk_lt, chk_eq, chk_nle, chk_neq, br_lt, br_ge, br_le, br_gt, br_eq, br_ne, br_not, br_true, br_false, br_and, wrap_id, obs, List.length_set, List.length_append, List.length_cons, List.length_nil, List.length_take, List.length_drop]
      simp only [if_pos, if_neg hn] at hq
      exact congrArg (fun q => DiffCleanupMerge_l0 K k i0 X L q 0 0 [] []) (by omega)
  · simp (disch := omega) only [chk_le, chk_lt, chk_eq, chk_nle, chk_neq, br_lt, br_ge, br_le, br_gt, br_eq, br_ne, br_not, br_true, br_false, br_and, wrap_id, obs, List.length_set, List.length_append, List.length_cons, List.length_nil, List.length_take, List.length_drop]
    rw [DiffCleanupMerge_j13_eq]
    by_cases hn : n = 0
    · subst hn
      simp (disch := omega) only [chk_le, chk_lt, chk_eq, chk_nle, chk_neq, br_lt, br_ge, br_le, br_gt, br_eq, br_ne, br_not, br_true, br_false, br_and, wrap_id, obs, List.length_set, List.length_append, List.length_cons, List.length_nil, List.length_take, List.length_drop]
      simp only [if_pos, if_neg hc] at hq
      exact congrArg (fun q => DiffCleanupMerge_l0 K k i0 X L q 0 0 [] []) (by omega)
    · simp (disch := omega) only [chk_le, chk_lt, chk_eq, chk_nle, chk_neq, br_lt, br_ge, br_le, br_gt, br_eq, br_ne, br_not, br_true, br_false, br_and, wrap_id, obs, List.length_set, List.length_append, List.length_cons, List.length_nil, List.length_take, List.length_drop]
      simp only [if_neg hn, if_neg hc] at hq
      exact congrArg (fun q => DiffCleanupMerge_l0 K k i0 X L q 0 0 [] []) (by omega)
theorem splice_enc (K : Nat) (A R T E : List M) (hE : E.length ≤ R.length) (hx : A.length + R.length + T.length ≤ 1000000000000) (hK : 2 * R.length + 3 ≤ K) (p q : Int) (hp : p = (A.length : Int)) (hq : q = (R.length : Int)) :
    splice K (enc (A ++ (R ++ T))) p q (enc E) = some (enc (A ++ (E ++ T))) := by
  subst hp hq
  have := splice_ok K (enc A) (enc R) (enc T) (enc E) (by rw [enc_len, enc_len]; exact hE) (by rw [enc_len, enc_len, enc_len]; exact hx) (by rw [enc_len]; exact hK)
  rw [enc_len, enc_len] at this
  rw [enc_app, enc_app, enc_app, enc_app]
  exact this
theorem j7_ok (K k : Nat) (i0 : Int) (X : List TS0.den) (Dl R T : List M) (c n : Nat) (d i : List Int) (hR : R.length = c + n) (h2 : 2 ≤ c + n) (hB : Dl.length + R.length + T.length ≤ 1000000000) (hK : 2 * R.length + 3 ≤ K) :
    DiffCleanupMerge_j7 K (k + 3) i0 X (enc (Dl ++ (R ++ T))) ((Dl.length + (c + n) : Nat) : Int) (c : Int) (n : Int) d i = DiffCleanupMerge_l0 K k i0 X (enc (Dl ++ (mk c n d i ++ T))) ((Dl.length + (mk c n d i).length + 1 : Nat) : Int) 0 0 [] [] := by
  rw [DiffCleanupMerge_j7_eq, mk_len c n d i h2]
  by_cases hc : c = 0
  · subst hc
    rw [br_eq (by omega)]
    have e : mk 0 n d i = [(1, i)] := rfl
    rw [e, show [((1 : Int), strOfRunes i)] = enc [(1, i)] from rfl, splice_enc K Dl R T [(1, i)] (by simp; omega) (by omega) hK _ _ (by rw [wrap_id (by omega) (by omega)]; omega) (by rw [wrap_id (by omega) (by omega)]; omega)]
    simp only [obs]
    exact j9_ok K k i0 X _ Dl.length 0 n (by omega) _ rfl
  · rw [br_ne (by omega)]
    by_cases hn : n = 0
    · subst hn
      rw [br_eq (by omega)]
      have e : mk c 0 d i = [(-1, d)] := by unfold mk; rw [if_neg hc, if_pos rfl]
      rw [e, show [((-1 : Int), strOfRunes d)] = enc [(-1, d)] from rfl, splice_enc K Dl R T [(-1, d)] (by simp; omega) (by omega) hK _ _ (by rw [wrap_id (by omega) (by omega)]; omega) (by rw [wrap_id (by omega) (by omega)]; omega)]
      simp only [obs]
      exact j9_ok K k i0 X _ Dl.length c 0 (by omega) _ rfl
    · rw [br_ne (by omega)]
      have e : mk c n d i = [(-1, d), (1, i)] := by unfold mk; rw [if_neg hc, if_neg hn]
      rw [e, show [((-1 : Int), strOfRunes d), ((1 : Int), strOfRunes i)] = enc [(-1, d), (1, i)] from rfl, splice_enc K Dl R T [(-1, d), (1, i)] (by simp; omega) (by omega) hK _ _ (by simp (disch := omega) only [chk_le, chk_lt, chk_eq, chk_nle, chk_neq, br_lt, br_ge, br_le, br_gt, br_eq, br_ne, br_not, br_true, br_false, br_and, wrap_id, obs, List.length_set, List.length_append, List.length_cons, List.length_nil, List.length_take, List.length_drop]; omega) (by rw [wrap_id (by omega) (by omega)]; omega)]
      simp only [obs]
      exact j9_ok K k i0 X _ Dl.length c n (by omega) _ rfl
theorem j12_ok (K k : Nat) (i0 : Int) (X : List TS0.den) (Dl R T : List M) (c n : Nat) (d i : List Int) (hR : R.length = c + n) (hc : c ≠ 0) (hn : n ≠ 0) (hB : Dl.length + R.length + T.length ≤ 1000000000) (hK : 2 * R.length + 3 ≤ K) :
    DiffCleanupMerge_j12 K (k + 3) i0 X (enc (Dl ++ (R ++ T))) ((Dl.length + (c + n) : Nat) : Int) (c : Int) (n : Int) d i = DiffCleanupMerge_l0 K k i0 X (enc (Dl ++ (mk c n d i ++ T))) ((Dl.length + (mk c n d i).length + 1 : Nat) : Int) 0 0 [] [] := by
  rw [DiffCleanupMerge_j12_eq, mk_len c n d i (by omega)]
  rw [br_ne (by omega), br_ne (by omega)]
  have e : mk c n d i = [(-1, d), (1, i)] := by unfold mk; rw [if_neg hc, if_neg hn]
  rw [e, show [((-1 : Int), strOfRunes d), ((1 : Int), strOfRunes i)] = enc [(-1, d), (1, i)] from rfl, splice_enc K Dl R T [(-1, d), (1, i)] (by simp; omega) (by omega) hK _ _ (by simp (disch := omega) only [chk_le, chk_lt, chk_eq, chk_nle, chk_neq, br_lt, br_ge, br_le, br_gt, br_eq, br_ne, br_not, br_true, br_false, br_and, wrap_id, obs, List.length_set, List.length_append, List.length_cons, List.length_nil, List.length_take, List.length_drop]; omega) (by rw [wrap_id (by omega) (by omega)]; omega)]
  simp only [obs]
  exact j9_ok K k i0 X _ Dl.length c n (by omega) _ rfl
/-- An equality's text set anew. -/
theorem set_enc (A B : List M) (t : Int) (x y : List Int) (p : Int) (hp : p = (A.length : Int)) : (enc (A ++ (t, x) :: B)).set (Int.toNat p) (t, strOfRunes y) = enc (A ++ (t, y) :: B) := by
  subst hp
  rw [enc_app, enc_app, enc_cons, enc_cons, Int.toNat_natCast]
  have := set_mid (enc A) (t, strOfRunes x) (t, strOfRunes y) (enc B)
  rw [enc_len] at this
  exact this
theorem nth_enc (A B : List M) (m : M) (p : Int) (hp : p = (A.length : Int)) : nth TS1 (enc (A ++ m :: B)) p = (m.1, strOfRunes m.2) := by
  rw [enc_app, enc_cons]
  exact nth_mid' TS1 (enc A) _ (enc B) p (by rw [enc_len]; exact hp)
theorem j6_ok (K k : Nat) (i0 : Int) (X : List TS0.den) (Dl R T : List M) (t : Int) (x : List Int) (c n : Nat) (d i : List Int) (hR : R.length = c + n) (hc : c ≠ 0) (hn : n ≠ 0) (hB : Dl.length + R.length + T.length + d.length + i.length + x.length ≤ 100000000) (hi : Okl i) (hx : Okl x) (hK : 2 * R.length + 2 * i.length + 3 ≤ K) :
    DiffCleanupMerge_j6 K (k + 4) i0 X (enc (Dl ++ (R ++ (t, x) :: T))) ((Dl.length + (c + n) : Nat) : Int) (c : Int) (n : Int) d i =
    DiffCleanupMerge_l0 K k i0 X (enc (Dl ++ (mk c n (d.take (d.length - csl i d)) (i.take (i.length - csl i d)) ++ (t, i.drop (i.length - csl i d) ++ x) :: T))) ((Dl.length + (mk c n (d.take (d.length - csl i d)) (i.take (i.length - csl i d))).length + 1 : Nat) : Int) 0 0 [] [] := by
  rw [DiffCleanupMerge_j6_eq, csl_ok K i d (by omega) (by omega) (by omega)]
  have hle := csl_le i d
  simp only [obs]
  by_cases hs : csl i d = 0
  · rw [hs, br_not, br_eq (by omega)]
    simp only [Nat.sub_zero, List.take_length, List.drop_length, List.nil_append]
    exact j7_ok K k i0 X Dl R ((t, x) :: T) c n d i hR (by omega) (by simp; omega) (by omega)
  · rw [br_not, br_ne (by omega)]
    have w1 : IntKind.i64.wrap ((i.length : Int) - (csl i d : Int)) = ((i.length - csl i d : Nat) : Int) := by rw [wrap_id (by omega) (by omega)]; omega
    have w2 : IntKind.i64.wrap ((d.length : Int) - (csl i d : Int)) = ((d.length - csl i d : Nat) : Int) := by rw [wrap_id (by omega) (by omega)]; omega
    have e1 : Dl ++ (R ++ (t, x) :: T) = (Dl ++ R) ++ (t, x) :: T := by simp
    rw [w1, w2, e1, nth_enc (Dl ++ R) T (t, x) _ (by simp; omega)]
    simp only [Int.toNat_natCast]
    rw [List.take_of_length_le (l := List.drop _ i) (by simp), app_str]
    have e2 : (List.set (enc (Dl ++ R ++ (t, x) :: T)) (Dl.length + (c + n)) (t, strOfRunes (i.drop (i.length - csl i d) ++ x))) = enc (Dl ++ R ++ (t, i.drop (i.length - csl i d) ++ x) :: T) := by
      have := set_enc (Dl ++ R) T t x (i.drop (i.length - csl i d) ++ x) ((Dl.length + (c + n) : Nat) : Int) (by simp; omega)
      rwa [Int.toNat_natCast] at this
    rw [e2]
    have s1 := size_le (hi.drop (i.length - csl i d))
    have s2 := size_le hx
    have s3 : (i.drop (i.length - csl i d)).length ≤ i.length := by simp
    have hl : (enc (Dl ++ R ++ (t, x) :: T)).length = Dl.length + R.length + T.length + 1 := by rw [enc_len]; simp; omega
    rw [hl]
    simp (disch := omega) only [chk_le, chk_lt, chk_eq, chk_nle, chk_neq, br_lt, br_ge, br_le, br_gt, br_eq, br_ne, br_not, br_true, br_false, br_and, wrap_id, obs, List.length_set, List.length_append, List.length_cons, List.length_nil, List.length_take, List.length_drop]
    rw [List.append_assoc]
    exact j7_ok K k i0 X Dl R ((t, _) :: T) c n _ _ hR (by omega) (by simp; omega) (by omega)
theorem j8_ok (K k : Nat) (i0 : Int) (X : List TS0.den) (Dl R T : List M) (t : Int) (x : List Int) (c n : Nat) (d i : List Int) (hR : R.length = c + n) (hc : c ≠ 0) (hn : n ≠ 0) (hB : Dl.length + R.length + T.length + d.length + i.length + x.length ≤ 100000000) (hi : Okl i) (hx : Okl x) (hK : 2 * R.length + 2 * i.length + 3 ≤ K) :
    DiffCleanupMerge_j8 K (k + 4) i0 X (enc (Dl ++ (R ++ (t, x) :: T))) ((Dl.length + (c + n) : Nat) : Int) (c : Int) (n : Int) d i =
    DiffCleanupMerge_l0 K k i0 X (enc (Dl ++ (mk c n (d.take (d.length - csl i d)) (i.take (i.length - csl i d)) ++ (t, i.drop (i.length - csl i d) ++ x) :: T))) ((Dl.length + (mk c n (d.take (d.length - csl i d)) (i.take (i.length - csl i d))).length + 1 : Nat) : Int) 0 0 [] [] := by
  rw [DiffCleanupMerge_j8_eq, csl_ok K i d (by omega) (by omega) (by omega)]
  have hle := csl_le i d
  simp only [obs]
  by_cases hs : csl i d = 0
  · rw [hs, br_not, br_eq (by omega)]
    simp only [Nat.sub_zero, List.take_length, List.drop_length, List.nil_append]
    exact j12_ok K k i0 X Dl R ((t, x) :: T) c n d i hR hc hn (by simp; omega) (by omega)
  · rw [br_not, br_ne (by omega)]
    have w1 : IntKind.i64.wrap ((i.length : Int) - (csl i d : Int)) = ((i.length - csl i d : Nat) : Int) := by rw [wrap_id (by omega) (by omega)]; omega
    have w2 : IntKind.i64.wrap ((d.length : Int) - (csl i d : Int)) = ((d.length - csl i d : Nat) : Int) := by rw [wrap_id (by omega) (by omega)]; omega
    have e1 : Dl ++ (R ++ (t, x) :: T) = (Dl ++ R) ++ (t, x) :: T := by simp
    rw [w1, w2, e1, nth_enc (Dl ++ R) T (t, x) _ (by simp; omega)]
    simp only [Int.toNat_natCast, show Int.toNat 0 = 0 from rfl, Nat.sub_zero, List.drop_zero]
    rw [List.take_of_length_le (l := List.drop _ i) (by simp), app_str]
    have e2 : (List.set (enc (Dl ++ R ++ (t, x) :: T)) (Dl.length + (c + n)) (t, strOfRunes (i.drop (i.length - csl i d) ++ x))) = enc (Dl ++ R ++ (t, i.drop (i.length - csl i d) ++ x) :: T) := by
      have := set_enc (Dl ++ R) T t x (i.drop (i.length - csl i d) ++ x) ((Dl.length + (c + n) : Nat) : Int) (by simp; omega)
      rwa [Int.toNat_natCast] at this
    rw [e2]
    have s1 := size_le (hi.drop (i.length - csl i d))
    have s2 := size_le hx
    have s3 : (i.drop (i.length - csl i d)).length ≤ i.length := by simp
    have hl : (enc (Dl ++ R ++ (t, x) :: T)).length = Dl.length + R.length + T.length + 1 := by rw [enc_len]; simp; omega
    rw [hl]
    simp (disch := omega) only [chk_le, chk_lt, chk_eq, chk_nle, chk_neq, br_lt, br_ge, br_le, br_gt, br_eq, br_ne, br_not, br_true, br_false, br_and, wrap_id, obs, List.length_set, List.length_append, List.length_cons, List.length_nil, List.length_take, List.length_drop]
    rw [List.append_assoc]
    exact j12_ok K k i0 X Dl R ((t, _) :: T) c n _ _ hR hc hn (by simp; omega) (by omega)
end Go.Proofs.YtblmeoigjbnmiaaDoor.E
