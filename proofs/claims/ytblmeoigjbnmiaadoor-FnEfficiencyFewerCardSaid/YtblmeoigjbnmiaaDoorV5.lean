import Derived.Test.YtblmeoigjbnmiaaDoorV4
/- The first pass of DiffCleanupMerge: the loop. -/
set_option linter.unusedVariables false
set_option linter.unusedSimpArgs false
namespace Go.Proofs.YtblmeoigjbnmiaaDoor.E
open Go.Ev
def sideD : List M → List Int
  | [] => []
  | m :: l => if m.1 = -1 then m.2 ++ sideD l else sideD l
def sideI : List M → List Int
  | [] => []
  | m :: l => if m.1 = 1 then m.2 ++ sideI l else sideI l
def cD : List M → Nat
  | [] => 0
  | m :: l => if m.1 = -1 then cD l + 1 else cD l
def cI : List M → Nat
  | [] => 0
  | m :: l => if m.1 = 1 then cI l + 1 else cI l
abbrev Dn := Option (List M × List Int)
def toL : Dn → List M
  | none => []
  | some (D0, e) => D0 ++ [(0, e)]
def pushP (D : Dn) (P : List Int) : Dn := if P = [] then D else match D with
  | none => some ([], P)
  | some (D0, e) => some (D0, e ++ P)
/-- A run of edits as it is merged: what is common ahead, the edits, what is common behind. -/
def nrm (R : List M) : List Int × List M × List Int :=
  if cD R = 0 ∨ cI R = 0 then ([], mk (cD R) (cI R) (sideD R) (sideI R), [])
  else
    ((sideI R).take (cpl (sideI R) (sideD R)),
     mk (cD R) (cI R) (((sideD R).drop (cpl (sideI R) (sideD R))).take (((sideD R).drop (cpl (sideI R) (sideD R))).length - csl ((sideI R).drop (cpl (sideI R) (sideD R))) ((sideD R).drop (cpl (sideI R) (sideD R)))))
       (((sideI R).drop (cpl (sideI R) (sideD R))).take (((sideI R).drop (cpl (sideI R) (sideD R))).length - csl ((sideI R).drop (cpl (sideI R) (sideD R))) ((sideD R).drop (cpl (sideI R) (sideD R))))),
     ((sideI R).drop (cpl (sideI R) (sideD R))).drop (((sideI R).drop (cpl (sideI R) (sideD R))).length - csl ((sideI R).drop (cpl (sideI R) (sideD R))) ((sideD R).drop (cpl (sideI R) (sideD R)))))
def one (D : Dn) (R : List M) (x : List Int) : Dn := match D, R with
  | some (D0, e), [] => some (D0, e ++ x)
  | D, R => some (toL D ++ R, x)
def stepE (D : Dn) (R : List M) (x : List Int) : Dn :=
  if 2 ≤ R.length then some (toL (pushP D (nrm R).1) ++ (nrm R).2.1, (nrm R).2.2 ++ x) else one D R x
def pass1 : Dn → List M → List M → List M
  | D, R, [] => toL D ++ R
  | D, R, m :: T => if m.1 = 0 then pass1 (stepE D R m.2) [] T else pass1 D (R ++ [m]) T
theorem j3_false (K k : Nat) (i0 : Int) (X : List TS0.den) (L : List TS1.den) (p : Nat) (h : p ≤ 1000000000) : DiffCleanupMerge_j3 K (k + 1) i0 X L (p : Int) false = DiffCleanupMerge_l0 K k i0 X L ((p + 1 : Nat) : Int) 0 0 [] [] := by
  rw [DiffCleanupMerge_j3_eq]
  simp (disch := omega) only [chk_le, chk_lt, chk_eq, chk_nle, chk_neq, br_lt, br_ge, br_le, br_gt, br_eq, br_ne, br_not, br_true, br_false, br_and, wrap_id, obs, List.length_set, List.length_append, List.length_cons, List.length_nil, List.length_take, List.length_drop]
  rfl
theorem j3_true (K k : Nat) (i0 : Int) (X : List TS0.den) (D0 : List M) (e x : List Int) (T : List M) (he : Okl e) (hx : Okl x) (hB : D0.length + T.length + e.length + x.length ≤ 100000000) :
    DiffCleanupMerge_j3 K (k + 1) i0 X (enc (D0 ++ (0, e) :: (0, x) :: T)) ((D0.length + 1 : Nat) : Int) true = DiffCleanupMerge_l0 K k i0 X (enc (D0 ++ (0, e ++ x) :: T)) ((D0.length + 1 : Nat) : Int) 0 0 [] [] := by
  rw [DiffCleanupMerge_j3_eq, br_true]
  have w1 : IntKind.i64.wrap (((D0.length + 1 : Nat) : Int) - 1) = (D0.length : Int) := by rw [wrap_id (by omega) (by omega)]; omega
  have w2 : IntKind.i64.wrap (((D0.length + 1 : Nat) : Int) + 1) = ((D0.length + 2 : Nat) : Int) := by rw [wrap_id (by omega) (by omega)]; omega
  have n2 : nth TS1 (enc (D0 ++ (0, e) :: (0, x) :: T)) ((D0.length + 1 : Nat) : Int) = (0, strOfRunes x) := by
    rw [show D0 ++ (0, e) :: (0, x) :: T = (D0 ++ [(0, e)]) ++ (0, x) :: T by simp]
    exact nth_enc _ _ _ _ (by simp)
  rw [w1, w2, nth_enc D0 _ (0, e) _ rfl, n2]
  simp only []
  rw [app_str, set_enc D0 ((0, x) :: T) 0 e (e ++ x) _ rfl]
  have s1 := size_le he
  have s2 := size_le hx
  have hl : (enc (D0 ++ (0, e) :: (0, x) :: T)).length = D0.length + T.length + 2 := by rw [enc_len]; simp; omega
  have hl2 : (enc (D0 ++ (0, e ++ x) :: (0, x) :: T)).length = D0.length + T.length + 2 := by rw [enc_len]; simp; omega
  have e1 : List.take (D0.length + 1) (enc (D0 ++ (0, e ++ x) :: (0, x) :: T)) = enc (D0 ++ [(0, e ++ x)]) := by
    rw [show D0 ++ (0, e ++ x) :: (0, x) :: T = (D0 ++ [(0, e ++ x)]) ++ (0, x) :: T by simp, enc_app, show D0.length + 1 = (enc (D0 ++ [(0, e ++ x)])).length by rw [enc_len]; simp, List.take_left]
  have e2 : List.drop (D0.length + 2) (enc (D0 ++ (0, e ++ x) :: (0, x) :: T)) = enc T := by
    rw [show D0 ++ (0, e ++ x) :: (0, x) :: T = (D0 ++ [(0, e ++ x), (0, x)]) ++ T by simp, enc_app, show D0.length + 2 = (enc (D0 ++ [(0, e ++ x), (0, x)])).length by rw [enc_len]; simp, List.drop_left]
  simp only [Int.toNat_natCast]
  rw [e1, e2, hl, hl2, List.take_of_length_le (l := enc T) (by rw [enc_len]; omega)]
  have hl3 := enc_len T
  simp (disch := omega) only [chk_le, chk_lt, chk_eq, chk_nle, chk_neq, br_lt, br_ge, br_le, br_gt, br_eq, br_ne, br_not, br_true, br_false, br_and, wrap_id, obs, List.length_set, List.length_append, List.length_cons, List.length_nil, List.length_take, List.length_drop]
  rw [← enc_app]
  simp
theorem j5_true (K k : Nat) (i0 : Int) (X : List TS0.den) (D0 R T : List M) (e : List Int) (t : Int) (x : List Int) (c n p : Nat) (d i : List Int) (hR : R.length = c + n) (hc : c ≠ 0) (hn : n ≠ 0) (hpi : p ≤ i.length) (hpd : p ≤ d.length)
    (hB : D0.length + R.length + T.length + d.length + i.length + x.length + e.length ≤ 10000000) (hi : Okl i) (hx : Okl x) (he : Okl e) (hK : 2 * R.length + 2 * i.length + 3 ≤ K) :
    DiffCleanupMerge_j5 K (k + 5) i0 X (enc ((D0 ++ [(0, e)]) ++ (R ++ (t, x) :: T))) ((D0.length + 1 + (c + n) : Nat) : Int) (c : Int) (n : Int) (p : Int) d i ((D0.length + 1 : Nat) : Int) true =
    DiffCleanupMerge_l0 K k i0 X (enc ((D0 ++ [(0, e ++ i.take p)]) ++ (mk c n ((d.drop p).take ((d.drop p).length - csl (i.drop p) (d.drop p))) ((i.drop p).take ((i.drop p).length - csl (i.drop p) (d.drop p))) ++ (t, (i.drop p).drop ((i.drop p).length - csl (i.drop p) (d.drop p)) ++ x) :: T)))
      ((D0.length + 1 + (mk c n ((d.drop p).take ((d.drop p).length - csl (i.drop p) (d.drop p))) ((i.drop p).take ((i.drop p).length - csl (i.drop p) (d.drop p)))).length + 1 : Nat) : Int) 0 0 [] [] := by
  rw [DiffCleanupMerge_j5_eq, br_true]
  have w1 : IntKind.i64.wrap (((D0.length + 1 : Nat) : Int) - 1) = (D0.length : Int) := by rw [wrap_id (by omega) (by omega)]; omega
  have a1 : (D0 ++ [(0, e)]) ++ (R ++ (t, x) :: T) = D0 ++ (0, e) :: (R ++ (t, x) :: T) := by simp
  rw [w1, a1, nth_enc D0 _ (0, e) _ rfl]
  simp only [Int.toNat_natCast, show Int.toNat 0 = 0 from rfl, Nat.sub_zero, List.drop_zero]
  rw [app_str]
  have st := set_enc D0 (R ++ (t, x) :: T) 0 e (e ++ i.take p) (D0.length : Int) rfl
  rw [Int.toNat_natCast] at st
  rw [st]
  have s1 := size_le he
  have s2 := size_le (hi.take p)
  have s3 : (i.take p).length ≤ i.length := by simp; omega
  have hl : (enc (D0 ++ (0, e) :: (R ++ (t, x) :: T))).length = D0.length + R.length + T.length + 2 := by rw [enc_len]; simp; omega
  rw [hl, List.take_of_length_le (l := List.drop p d) (by simp), List.take_of_length_le (l := List.drop p i) (by simp)]
  simp (disch := omega) only [chk_le, chk_lt, chk_eq, chk_nle, chk_neq, br_lt, br_ge, br_le, br_gt, br_eq, br_ne, br_not, br_true, br_false, br_and, wrap_id, obs, List.length_set, List.length_append, List.length_cons, List.length_nil, List.length_take, List.length_drop]
  rw [show D0 ++ (0, e ++ i.take p) :: (R ++ (t, x) :: T) = (D0 ++ [(0, e ++ i.take p)]) ++ (R ++ (t, x) :: T) by simp]
  have := j8_ok K k i0 X (D0 ++ [(0, e ++ i.take p)]) R T t x c n (d.drop p) (i.drop p) hR hc hn (by simp; omega) (hi.drop p) hx (by simp; omega)
  rw [show (D0 ++ [((0 : Int), e ++ i.take p)]).length = D0.length + 1 by simp] at this
  simp only [List.length_drop] at this
  exact this
theorem j5_false (K k : Nat) (i0 : Int) (X : List TS0.den) (R T : List M) (t : Int) (x : List Int) (c n p : Nat) (d i : List Int) (z : Int) (hR : R.length = c + n) (hc : c ≠ 0) (hn : n ≠ 0) (hpi : p ≤ i.length) (hpd : p ≤ d.length)
    (hB : R.length + T.length + d.length + i.length + x.length ≤ 10000000) (hi : Okl i) (hx : Okl x) (hK : 2 * R.length + 2 * i.length + 3 ≤ K) :
    DiffCleanupMerge_j5 K (k + 5) i0 X (enc (R ++ (t, x) :: T)) ((0 + (c + n) : Nat) : Int) (c : Int) (n : Int) (p : Int) d i z false =
    DiffCleanupMerge_l0 K k i0 X (enc ([(0, i.take p)] ++ (mk c n ((d.drop p).take ((d.drop p).length - csl (i.drop p) (d.drop p))) ((i.drop p).take ((i.drop p).length - csl (i.drop p) (d.drop p))) ++ (t, (i.drop p).drop ((i.drop p).length - csl (i.drop p) (d.drop p)) ++ x) :: T)))
      ((1 + (mk c n ((d.drop p).take ((d.drop p).length - csl (i.drop p) (d.drop p))) ((i.drop p).take ((i.drop p).length - csl (i.drop p) (d.drop p)))).length + 1 : Nat) : Int) 0 0 [] [] := by
  rw [DiffCleanupMerge_j5_eq, br_false]
  simp only [Int.toNat_natCast, show Int.toNat 0 = 0 from rfl, Nat.sub_zero, List.drop_zero]
  have hl : (enc (R ++ (t, x) :: T)).length = R.length + T.length + 1 := by rw [enc_len]; simp; omega
  rw [hl, List.take_of_length_le (l := List.drop p d) (by simp), List.take_of_length_le (l := List.drop p i) (by simp)]
  simp (disch := omega) only [chk_le, chk_lt, chk_eq, chk_nle, chk_neq, br_lt, br_ge, br_le, br_gt, br_eq, br_ne, br_not, br_true, br_false, br_and, wrap_id, obs, List.length_set, List.length_append, List.length_cons, List.length_nil, List.length_take, List.length_drop]
  rw [show ((0 + (c + n) : Nat) : Int) + 1 = (([((0 : Int), i.take p)].length + (c + n) : Nat) : Int) by simp; omega]
  have := j8_ok K k i0 X [(0, i.take p)] R T t x c n (d.drop p) (i.drop p) hR hc hn (by simp; omega) (hi.drop p) hx (by simp; omega)
  simp only [List.length_drop] at this
  exact this
end Go.Proofs.YtblmeoigjbnmiaaDoor.E
