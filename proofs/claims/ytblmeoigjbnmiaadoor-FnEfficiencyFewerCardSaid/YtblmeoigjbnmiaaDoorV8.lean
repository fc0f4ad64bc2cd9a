import Derived.Test.YtblmeoigjbnmiaaDoorV7
/- DiffCleanupMerge: the first pass' loop, the second pass, the whole. -/
set_option linter.unusedVariables false
set_option linter.unusedSimpArgs false
namespace Go.Proofs.YtblmeoigjbnmiaaDoor.E
open Go.Ev
theorem loop1 (K : Nat) (i0 : Int) (X : List TS0.den) : ∀ (T R : List M) (D : Dn) (k : Nat), Edits R → Typed T → Okm (toL D) → Okm R → Okm T → wt (toL D) + wt R + wt T ≤ 500000 → 2 * (wt (toL D) + wt R + wt T) + 10 ≤ K → 8 * T.length + 10 ≤ k →
    ∃ k', k ≤ k' + (8 * T.length + 10) ∧ DiffCleanupMerge_l0 K k i0 X (enc (toL D ++ (R ++ (T ++ [(0, [])])))) (((toL D).length + R.length : Nat) : Int) (cD R : Int) (cI R : Int) (sideD R) (sideI R) = DiffCleanupMerge_j1 K k' i0 X (enc (pass1 D R (T ++ [(0, [])])))
  | [], R, D, k, hR, _, oD, oR, _, hB, hK, hk => by
    obtain ⟨k, rfl⟩ : ∃ m, k = m + 8 := ⟨k - 8, by omega⟩
    have hw := wt_len (toL D)
    obtain ⟨k', hk', e⟩ := eq_step K k i0 X D R [] [] hR oD oR Okl.nil (by simp [wt] at *; omega) (by omega)
    obtain ⟨k', rfl⟩ : ∃ m, k' = m + 1 := ⟨k' - 1, by simp at hk; omega⟩
    refine ⟨k', by simp; omega, ?_⟩
    rw [List.nil_append, e, DiffCleanupMerge_l0_eq, enc_len]
    have hs : (toL (stepE D R []) ++ []).length = (toL (stepE D R [])).length := by simp
    rw [hs, br_ge (by omega)]
    show _ = DiffCleanupMerge_j1 K k' i0 X (enc (pass1 (stepE D R []) [] []))
    rw [pass1]
  | m :: T, R, D, k, hR, tT, oD, oR, oT, hB, hK, hk => by
    have hwT : wt (m :: T) = m.2.length + 1 + wt T := rfl
    have hw := wt_len T
    have hwD := wt_len (toL D)
    simp only [List.length_cons] at hk ⊢
    by_cases hm : m.1 = 0
    · obtain ⟨k, rfl⟩ : ∃ m, k = m + 8 := ⟨k - 8, by omega⟩
      obtain ⟨k', hk', e⟩ := eq_step K k i0 X D R (T ++ [(0, [])]) m.2 hR oD oR oT.head (by simp; omega) (by omega)
      have hst := step_wt D R m.2 hR
      obtain ⟨k2, hk2, e2⟩ := loop1 K i0 X T [] (stepE D R m.2) k' Edits.nil tT.tail (step_ok oD oR oT.head) Okm.nil oT.tail (by simp [wt]; omega) (by simp [wt]; omega) (by omega)
      refine ⟨k2, by omega, ?_⟩
      have em : m = (0, m.2) := by rw [← hm]
      rw [List.cons_append, pass1, if_pos hm]
      rw [em]
      refine e.trans ?_
      exact e2
    · have hme : m.1 = 1 ∨ m.1 = -1 := (tT m (List.mem_cons_self ..)).resolve_left hm
      obtain ⟨k, rfl⟩ : ∃ m, k = m + 2 := ⟨k - 2, by omega⟩
      have wR : wt (R ++ [m]) = wt R + (m.2.length + 1) := by rw [wt_app]; simp [wt]
      obtain ⟨k2, hk2, e2⟩ := loop1 K i0 X T (R ++ [m]) D k (hR.snoc hme) tT.tail oD (oR.app (Okm.cons oT.head Okm.nil)) oT.tail (by omega) (by omega) (by omega)
      refine ⟨k2, by omega, ?_⟩
      rw [List.cons_append, pass1, if_neg hm, ← e2]
      exact edit_step K k i0 X (toL D) R (T ++ [(0, [])]) m hR hme oT.head (by simp; omega)
def p2 : List M → List M × Bool
  | a :: b :: c :: B => if a.1 = 0 ∧ c.1 = 0 then
        (if a.2 <:+ b.2 then ((b.1, a.2 ++ b.2.take (b.2.length - a.2.length)) :: (p2 ((c.1, a.2 ++ c.2) :: B)).1, true)
        else if c.2 <+: b.2 then ((a.1, a.2 ++ c.2) :: (p2 ((b.1, b.2.drop c.2.length ++ c.2) :: B)).1, true)
        else (a :: (p2 (b :: c :: B)).1, (p2 (b :: c :: B)).2))
      else (a :: (p2 (b :: c :: B)).1, (p2 (b :: c :: B)).2)
  | l => (l, false)
termination_by l => l.length
theorem p2_short (l : List M) (h : l.length ≤ 2) : p2 l = (l, false) := by
  match l, h with
  | [], _ => rw [p2]; simp
  | [a], _ => rw [p2]; simp
  | [a, b], _ => rw [p2]; simp
theorem j14_false (K k : Nat) (i0 : Int) (X : List TS0.den) (L : List TS1.den) (p : Nat) (f : Bool) (h : p ≤ 1000000000) : DiffCleanupMerge_j14 K (k + 1) i0 X L (p : Int) f false = DiffCleanupMerge_l1 K k i0 X L ((p + 1 : Nat) : Int) f := by
  rw [DiffCleanupMerge_j14_eq]
  simp (disch := omega) only [chk_le, chk_lt, chk_eq, chk_nle, chk_neq, br_lt, br_ge, br_le, br_gt, br_eq, br_ne, br_not, br_true, br_false, br_and, wrap_id, obs, List.length_set, List.length_append, List.length_cons, List.length_nil, List.length_take, List.length_drop]
  rfl
section
variable (A B : List M) (a b c : M)
theorem n0 : nth TS1 (enc (A ++ a :: b :: c :: B)) (A.length : Int) = (a.1, strOfRunes a.2) := nth_enc A _ a _ rfl
theorem n1 : nth TS1 (enc (A ++ a :: b :: c :: B)) ((A.length + 1 : Nat) : Int) = (b.1, strOfRunes b.2) := by
  rw [show A ++ a :: b :: c :: B = (A ++ [a]) ++ b :: c :: B by simp]
  exact nth_enc _ _ _ _ (by simp)
theorem n2 : nth TS1 (enc (A ++ a :: b :: c :: B)) ((A.length + 2 : Nat) : Int) = (c.1, strOfRunes c.2) := by
  rw [show A ++ a :: b :: c :: B = (A ++ [a, b]) ++ c :: B by simp]
  exact nth_enc _ _ _ _ (by simp)
theorem st0 (t : Int) (x y : List Int) : (enc (A ++ (t, x) :: b :: c :: B)).set A.length (t, strOfRunes y) = enc (A ++ (t, y) :: b :: c :: B) := by
  have := set_enc A (b :: c :: B) t x y (A.length : Int) rfl
  rwa [Int.toNat_natCast] at this
theorem st1 (t : Int) (x y : List Int) : (enc (A ++ a :: (t, x) :: c :: B)).set (A.length + 1) (t, strOfRunes y) = enc (A ++ a :: (t, y) :: c :: B) := by
  have := set_enc (A ++ [a]) (c :: B) t x y ((A.length + 1 : Nat) : Int) (by simp)
  rw [Int.toNat_natCast] at this
  simpa using this
theorem st2 (t : Int) (x y : List Int) : (enc (A ++ a :: b :: (t, x) :: B)).set (A.length + 2) (t, strOfRunes y) = enc (A ++ a :: b :: (t, y) :: B) := by
  have := set_enc (A ++ [a, b]) B t x y ((A.length + 2 : Nat) : Int) (by simp)
  rw [Int.toNat_natCast] at this
  simpa using this
end
theorem j14_suf (K k : Nat) (i0 : Int) (X : List TS0.den) (A B : List M) (ta tb tc : Int) (x q y : List Int) (f : Bool) (ox : Okl x) (oq : Okl q) (oy : Okl y) (hB : A.length + B.length + x.length + q.length + y.length ≤ 1000000) (hK : 10 ≤ K) :
    DiffCleanupMerge_j14 K (k + 1) i0 X (enc (A ++ (ta, x) :: (tb, q ++ x) :: (tc, y) :: B)) ((A.length + 1 : Nat) : Int) f true = DiffCleanupMerge_l1 K k i0 X (enc (A ++ (tb, x ++ q) :: (tc, x ++ y) :: B)) ((A.length + 2 : Nat) : Int) true := by
  rw [DiffCleanupMerge_j14_eq, br_true]
  have w0 : IntKind.i64.wrap (((A.length + 1 : Nat) : Int) - 1) = (A.length : Int) := by rw [wrap_id (by omega) (by omega)]; omega
  have w2 : IntKind.i64.wrap (((A.length + 1 : Nat) : Int) + 1) = ((A.length + 2 : Nat) : Int) := by rw [wrap_id (by omega) (by omega)]; omega
  rw [w0, w2, n1, n0]
  simp only []
  have s1 := size_le ox
  have s2 := size_le oq
  have s3 := size_le oy
  have s4 := size_app' q x
  have s5 := size_app' x q
  rw [hasSuffix_ok K (q ++ x) x (oq.append ox) ox (by simp; omega) (by omega)]
  rw [decide_eq_true (show x <:+ q ++ x from ⟨q, rfl⟩)]
  simp only [obs]
  have w3 : (IntKind.i64.wrap (((strOfRunes (q ++ x)).size : Int) - ((strOfRunes x).size : Int))) = (((strOfRunes (q ++ x)).size - (strOfRunes x).size : Nat) : Int) := by rw [wrap_id (by omega) (by omega)]; omega
  rw [w3]
  simp only [Int.toNat_natCast, show Int.toNat 0 = 0 from rfl]
  rw [ext_to, app_str, st1]
  rw [n2, n0]
  simp only []
  rw [app_str, st2]
  have hsp := splice_enc K A [(ta, x)] ((tb, x ++ q) :: (tc, x ++ y) :: B) [] (by simp) (by simp; omega) (by simp; omega) (A.length : Int) 1 rfl (by simp)
  rw [show A ++ (ta, x) :: (tb, x ++ q) :: (tc, x ++ y) :: B = A ++ ([(ta, x)] ++ (tb, x ++ q) :: (tc, x ++ y) :: B) by simp] 
  rw [show enc ([] : List M) = [] from rfl] at hsp
  rw [hsp]
  have hl1 : (enc (A ++ (ta, x) :: (tb, q ++ x) :: (tc, y) :: B)).length = A.length + B.length + 3 := by rw [enc_len]; simp; omega
  have hl2 : (enc (A ++ (ta, x) :: (tb, x ++ q) :: (tc, y) :: B)).length = A.length + B.length + 3 := by rw [enc_len]; simp; omega
  simp (disch := omega) only [chk_le, chk_lt, chk_eq, chk_nle, chk_neq, br_lt, br_ge, br_le, br_gt, br_eq, br_ne, br_not, br_true, br_false, br_and, wrap_id, obs, List.length_set, List.length_append, List.length_cons, List.length_nil, List.length_take, List.length_drop]
  rw [List.nil_append]
theorem j14_pre (K k : Nat) (i0 : Int) (X : List TS0.den) (A B : List M) (ta tb tc : Int) (x q y : List Int) (f : Bool) (ox : Okl x) (oq : Okl q) (oy : Okl y) (hn : ¬ x <:+ y ++ q) (hB : A.length + B.length + x.length + q.length + y.length ≤ 1000000) (hK : 10 ≤ K) :
    DiffCleanupMerge_j14 K (k + 1) i0 X (enc (A ++ (ta, x) :: (tb, y ++ q) :: (tc, y) :: B)) ((A.length + 1 : Nat) : Int) f true = DiffCleanupMerge_l1 K k i0 X (enc (A ++ (ta, x ++ y) :: (tb, q ++ y) :: B)) ((A.length + 2 : Nat) : Int) true := by
  rw [DiffCleanupMerge_j14_eq, br_true]
  have w0 : IntKind.i64.wrap (((A.length + 1 : Nat) : Int) - 1) = (A.length : Int) := by rw [wrap_id (by omega) (by omega)]; omega
  have w2 : IntKind.i64.wrap (((A.length + 1 : Nat) : Int) + 1) = ((A.length + 2 : Nat) : Int) := by rw [wrap_id (by omega) (by omega)]; omega
  rw [w0, w2, n1, n0, n2]
  simp only []
  have s1 := size_le ox
  have s2 := size_le oq
  have s3 := size_le oy
  have s4 := size_app' q y
  have s5 := size_app' y q
  rw [hasSuffix_ok K (y ++ q) x (oy.append oq) ox (by simp; omega) (by omega), hasPrefix_ok K (y ++ q) y (oy.append oq) oy (by simp; omega) (by omega)]
  rw [decide_eq_false hn, decide_eq_true (show y <+: y ++ q from ⟨q, rfl⟩)]
  simp only [obs]
  rw [app_str]
  simp only [Int.toNat_natCast]
  rw [st0, n2, n1]
  simp only []
  rw [ext_from, app_str, st1]
  have hsp := splice_enc K (A ++ [(ta, x ++ y), (tb, q ++ y)]) [(tc, y)] B [] (by simp) (by simp; omega) (by simp; omega) ((A.length + 2 : Nat) : Int) 1 (by simp) (by simp)
  rw [show A ++ (ta, x ++ y) :: (tb, q ++ y) :: (tc, y) :: B = (A ++ [(ta, x ++ y), (tb, q ++ y)]) ++ ([(tc, y)] ++ B) by simp]
  rw [show enc ([] : List M) = [] from rfl] at hsp
  rw [hsp]
  have hl1 : (enc (A ++ (ta, x) :: (tb, y ++ q) :: (tc, y) :: B)).length = A.length + B.length + 3 := by rw [enc_len]; simp; omega
  have hl2 : (enc (A ++ (ta, x ++ y) :: (tb, y ++ q) :: (tc, y) :: B)).length = A.length + B.length + 3 := by rw [enc_len]; simp; omega
  simp (disch := omega) only [chk_le, chk_lt, chk_eq, chk_nle, chk_neq, br_lt, br_ge, br_le, br_gt, br_eq, br_ne, br_not, br_true, br_false, br_and, wrap_id, obs, List.length_set, List.length_append, List.length_cons, List.length_nil, List.length_take, List.length_drop]
  rw [show A ++ [(ta, x ++ y), (tb, q ++ y)] ++ ([] ++ B) = A ++ (ta, x ++ y) :: (tb, q ++ y) :: B by simp]
theorem j14_no (K k : Nat) (i0 : Int) (X : List TS0.den) (A B : List M) (a b c : M) (f : Bool) (oa : Okl a.2) (ob : Okl b.2) (oc : Okl c.2) (h1 : ¬ a.2 <:+ b.2) (h2 : ¬ c.2 <+: b.2) (hB : A.length + B.length + a.2.length + b.2.length + c.2.length ≤ 1000000) (hK : 10 ≤ K) :
    DiffCleanupMerge_j14 K (k + 1) i0 X (enc (A ++ a :: b :: c :: B)) ((A.length + 1 : Nat) : Int) f true = DiffCleanupMerge_l1 K k i0 X (enc (A ++ a :: b :: c :: B)) ((A.length + 2 : Nat) : Int) f := by
  rw [DiffCleanupMerge_j14_eq, br_true]
  have w0 : IntKind.i64.wrap (((A.length + 1 : Nat) : Int) - 1) = (A.length : Int) := by rw [wrap_id (by omega) (by omega)]; omega
  have w2 : IntKind.i64.wrap (((A.length + 1 : Nat) : Int) + 1) = ((A.length + 2 : Nat) : Int) := by rw [wrap_id (by omega) (by omega)]; omega
  rw [w0, w2, n1, n0, n2]
  simp only []
  rw [hasSuffix_ok K b.2 a.2 ob oa (by omega) (by omega), hasPrefix_ok K b.2 c.2 ob oc (by omega) (by omega)]
  rw [decide_eq_false h1, decide_eq_false h2]
  simp only [obs]
  have hl1 : (enc (A ++ a :: b :: c :: B)).length = A.length + B.length + 3 := by rw [enc_len]; simp; omega
  rw [hl1]
  simp (disch := omega) only [chk_le, chk_lt, chk_eq, chk_nle, chk_neq, br_lt, br_ge, br_le, br_gt, br_eq, br_ne, br_not, br_true, br_false, br_and, wrap_id, obs, List.length_set, List.length_append, List.length_cons, List.length_nil, List.length_take, List.length_drop]
theorem three {α : Type} {l : List α} (h : ¬ l.length ≤ 2) : ∃ a b c B, l = a :: b :: c :: B := by
  match l with
  | [] => simp at h
  | [a] => simp at h
  | [a, b] => simp at h
  | a :: b :: c :: B => exact ⟨a, b, c, B, rfl⟩
theorem loop2 (K : Nat) (i0 : Int) (X : List TS0.den) (hK : 10 ≤ K) : ∀ (n : Nat) (A l : List M) (f : Bool) (k : Nat), l.length ≤ n → Okm (A ++ l) → wt (A ++ l) ≤ 500000 → 3 * n + 3 ≤ k →
    ∃ k', k ≤ k' + (3 * n + 3) ∧ DiffCleanupMerge_l1 K k i0 X (enc (A ++ l)) ((A.length + 1 : Nat) : Int) f = DiffCleanupMerge_j11 K k' i0 X (enc (A ++ (p2 l).1)) (f || (p2 l).2)
  | n, A, l, f, k, hl, hO, hW, hk => by
    have hwl := wt_len (A ++ l)
    rw [List.length_append] at hwl
    by_cases h3 : l.length ≤ 2
    · obtain ⟨k, rfl⟩ : ∃ m, k = m + 1 := ⟨k - 1, by omega⟩
      refine ⟨k, by omega, ?_⟩
      rw [DiffCleanupMerge_l1_eq, enc_len, p2_short l h3, List.length_append, br_ge (by rw [wrap_id (by omega) (by omega)]; omega)]
      simp
    · obtain ⟨a, b, c, B, rfl⟩ := three h3
      obtain ⟨n, rfl⟩ : ∃ m, n = m + 1 := ⟨n - 1, by simp only [List.length_cons] at hl; omega⟩
      · simp only [List.length_cons] at hl hwl
        obtain ⟨k, rfl⟩ : ∃ m, k = m + 3 := ⟨k - 3, by omega⟩
        have hwt : wt (A ++ a :: b :: c :: B) = wt A + (a.2.length + 1 + (b.2.length + 1 + (c.2.length + 1 + wt B))) := by rw [wt_app]; rfl
        have hwB := wt_len B
        have hwA := wt_len A
        have oa := (hO.right).head
        have ob := (hO.right).tail.head
        have oc := (hO.right).tail.tail.head
        have oB := (hO.right).tail.tail.tail
        have w0 : IntKind.i64.wrap (((A.length + 1 : Nat) : Int) - 1) = (A.length : Int) := by rw [wrap_id (by omega) (by omega)]; omega
        have w2 : IntKind.i64.wrap (((A.length + 1 : Nat) : Int) + 1) = ((A.length + 2 : Nat) : Int) := by rw [wrap_id (by omega) (by omega)]; omega
        have hle : (enc (A ++ a :: b :: c :: B)).length = A.length + B.length + 3 := by rw [enc_len]; simp; omega
        have skip : ∃ k', k + 3 ≤ k' + (3 * (n + 1) + 3) ∧ DiffCleanupMerge_l1 K k i0 X (enc (A ++ a :: b :: c :: B)) ((A.length + 2 : Nat) : Int) f = DiffCleanupMerge_j11 K k' i0 X (enc (A ++ a :: (p2 (b :: c :: B)).1)) (f || (p2 (b :: c :: B)).2) := by
          obtain ⟨k', hk', e⟩ := loop2 K i0 X hK n (A ++ [a]) (b :: c :: B) f k (by simp; omega) (by simpa using hO) (by simpa using hW) (by omega)
          refine ⟨k', by omega, ?_⟩
          rw [show (A ++ [a]).length + 1 = A.length + 2 by simp] at e
          simpa using e
        rw [DiffCleanupMerge_l1_eq, hle, br_lt (by rw [wrap_id (by omega) (by omega)]; omega), DiffCleanupMerge_j10_eq, hle, w0, w2, n0, n2]
        simp only []
        rw [chk_le (by omega), chk_lt (by omega), chk_le (by omega), chk_lt (by omega)]
        by_cases hac : a.1 = 0 ∧ c.1 = 0
        · rw [br_eq hac.1, eqI_t hac.2]
          by_cases hs : a.2 <:+ b.2
          · obtain ⟨q, hq⟩ := hs
            have hb : b = (b.1, q ++ a.2) := by rw [hq]
            have e1 := j14_suf K k i0 X A B a.1 b.1 c.1 a.2 q c.2 f oa (by rw [← hq] at ob; exact ob.left) oc (by rw [← hq, List.length_append] at hwt; omega) hK
            rw [← hb] at e1
            have hp : p2 (a :: b :: c :: B) = ((b.1, a.2 ++ q) :: (p2 ((c.1, a.2 ++ c.2) :: B)).1, true) := by
              rw [p2, if_pos hac, if_pos ⟨q, hq⟩, ← hq]
              simp
            obtain ⟨k', hk', e⟩ := loop2 K i0 X hK n (A ++ [(b.1, a.2 ++ q)]) ((c.1, a.2 ++ c.2) :: B) true k (by simp; omega)
              (by
                have := hO.left.app (Okm.cons (m := (b.1, a.2 ++ q)) (oa.append (by rw [← hq] at ob; exact ob.left)) (Okm.cons (m := (c.1, a.2 ++ c.2)) (oa.append oc) oB))
                simpa using this)
              (by rw [← hq, List.length_append] at hwt; simp [wt_app, wt]; omega) (by omega)
            refine ⟨k', by omega, ?_⟩
            rw [e1, hp]
            rw [show (A ++ [(b.1, a.2 ++ q)]).length + 1 = A.length + 2 by simp] at e
            simpa using e
          · by_cases hpf : c.2 <+: b.2
            · obtain ⟨q, hq⟩ := hpf
              have hb : b = (b.1, c.2 ++ q) := by rw [hq]
              have e1 := j14_pre K k i0 X A B a.1 b.1 c.1 a.2 q c.2 f oa (by rw [← hq] at ob; exact ob.right) oc (by rw [hq]; exact hs) (by rw [← hq, List.length_append] at hwt; omega) hK
              rw [← hb] at e1
              have hp : p2 (a :: b :: c :: B) = ((a.1, a.2 ++ c.2) :: (p2 ((b.1, q ++ c.2) :: B)).1, true) := by
                rw [p2, if_pos hac, if_neg hs, if_pos ⟨q, hq⟩, ← hq]
                simp
              obtain ⟨k', hk', e⟩ := loop2 K i0 X hK n (A ++ [(a.1, a.2 ++ c.2)]) ((b.1, q ++ c.2) :: B) true k (by simp; omega)
                (by
                  have := hO.left.app (Okm.cons (m := (a.1, a.2 ++ c.2)) (oa.append oc) (Okm.cons (m := (b.1, q ++ c.2)) (Okl.append (by rw [← hq] at ob; exact ob.right) oc) oB))
                  simpa using this)
                (by rw [← hq, List.length_append] at hwt; simp [wt_app, wt]; omega) (by omega)
              refine ⟨k', by omega, ?_⟩
              rw [e1, hp]
              rw [show (A ++ [(a.1, a.2 ++ c.2)]).length + 1 = A.length + 2 by simp] at e
              simpa using e
            · have hp : p2 (a :: b :: c :: B) = (a :: (p2 (b :: c :: B)).1, (p2 (b :: c :: B)).2) := by rw [p2, if_pos hac, if_neg hs, if_neg hpf]
              obtain ⟨k', hk', e⟩ := skip
              refine ⟨k', hk', ?_⟩
              rw [j14_no K k i0 X A B a b c f oa ob oc hs hpf (by omega) hK, hp]
              exact e
        · have hp : p2 (a :: b :: c :: B) = (a :: (p2 (b :: c :: B)).1, (p2 (b :: c :: B)).2) := by rw [p2, if_neg hac]
          obtain ⟨k', hk', e⟩ := skip
          refine ⟨k', hk', ?_⟩
          rw [hp]
          refine Eq.trans ?_ e
          have hj := j14_false K k i0 X (enc (A ++ a :: b :: c :: B)) (A.length + 1) f (by omega)
          by_cases ha : a.1 = 0
          · have hc : ¬ c.1 = 0 := fun h => hac ⟨ha, h⟩
            rw [br_eq ha, eqI_f hc]
            exact hj
          · rw [br_ne ha]
            exact hj
termination_by n => n
end Go.Proofs.YtblmeoigjbnmiaaDoor.E
