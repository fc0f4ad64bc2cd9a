import Derived.Test.YtfefjbifdbfmjaaDoorDP
/- Deltas: the package reads what the specification reads. -/
set_option linter.unusedVariables false
set_option linter.unusedSimpArgs false
namespace Go.Proofs.YtfefjbifdbfmjaaDoor.E
open Go.Ev
def rb (c : UInt8) : List UInt8 := repB 43 [37, 50, 98] c
theorem rb_ne (c : UInt8) (h : c ≠ 43) : rb c = [c] := by
  unfold rb repB
  rw [if_neg h]
theorem hex_ne (a : UInt8) (h : hexOk a = true) : a ≠ 43 := by
  rintro rfl
  revert h
  decide
theorem unq_plain (K k : Nat) (s : ByteArray) (hs : s.size ≤ 100000) (i : Nat) (acc : List UInt8) (x : UInt8) (r : List UInt8) (hd : (B s).drop i = x :: r) (h37 : x ≠ 37) (h43 : x ≠ 43) (ha : acc.length ≤ i) :
    i < s.size ∧ (B s).drop (i + 1) = r ∧ zzQueryUnescape_l0 (K + 4) (k + 1 + 1) s (ints acc) (i : Int) = zzQueryUnescape_l0 (K + 4) k s (ints (acc ++ [x])) ((i + 1 : Nat) : Int) := by
  have hl := ints_len acc
  obtain ⟨hi', h1, h2⟩ := at_drop hd
  rw [B_size] at hi'
  refine ⟨hi', h2, ?_⟩
  rw [zzQueryUnescape_l0_eq, br_lt (by omega), zzQueryUnescape_j0_eq, chk_le (by omega), chk_lt (by omega), bt_at s i hi', h1, e37, br_dec, if_neg h37, e43, br_dec, if_neg h43, chk_le (by omega), chk_lt (by omega), chk_lt (by rw [hl]; show (acc.length : Int) + 1 < _; omega), wrap_id (by omega) (by omega), show (i : Int) + 1 = ((i + 1 : Nat) : Int) by omega]
  rw [show ints acc ++ [((x.toNat : Nat) : Int)] = ints (acc ++ [x]) by rw [ints_append]; rfl]
theorem unq_pct (K k : Nat) (s : ByteArray) (hs : s.size ≤ 100000) (i : Nat) (acc : List UInt8) (a b : UInt8) (r : List UInt8) (hd : (B s).drop i = 37 :: a :: b :: r) (oa : hexOk a = true) (ob : hexOk b = true) (ha : acc.length ≤ i) :
    i + 2 < s.size ∧ (B s).drop (i + 1 + 1 + 1) = r ∧ zzQueryUnescape_l0 (K + 4) (k + 1 + 1 + 1 + 1) s (ints acc) (i : Int) = zzQueryUnescape_l0 (K + 4) k s (ints (acc ++ [hexV a b])) ((i + 1 + 1 + 1 : Nat) : Int) := by
  have hl := ints_len acc
  obtain ⟨hi1, h1, h2⟩ := at_drop hd
  obtain ⟨hi2, h3, h4⟩ := at_drop h2
  obtain ⟨hi3, h5, h6⟩ := at_drop h4
  rw [B_size] at hi1 hi2 hi3
  have da : digD (a.toNat : Int) ≤ 15 := of_decide_eq_true oa
  have db : digD (b.toNat : Int) ≤ 15 := of_decide_eq_true ob
  refine ⟨by omega, h6, ?_⟩
  have b1 : bt s ((i : Int) + 1) = ((a.toNat : Nat) : Int) := by
    rw [show (i : Int) + 1 = ((i + 1 : Nat) : Int) by omega, bt_at s (i + 1) hi2, h3]
  have b2 : bt s ((i : Int) + 2) = ((b.toNat : Nat) : Int) := by
    rw [show (i : Int) + 2 = ((i + 1 + 1 : Nat) : Int) by omega, bt_at s (i + 1 + 1) hi3, h5]
  have hv' : (IntKind.u8.wrap (BitVec.toNat (BitVec.ofInt (IntKind.u8).bits (IntKind.u8.wrap (digD (a.toNat : Int) * 2 ^ min (Int.toNat 4) (IntKind.u8).bits)) ||| BitVec.ofInt (IntKind.u8).bits (digD (b.toNat : Int))))) = (((hexV a b).toNat : Nat) : Int) := (hexV_eq a b oa ob).1
  rw [zzQueryUnescape_l0_eq, br_lt (by omega), zzQueryUnescape_j0_eq, wrap_id (x := (i : Int) + 2) (by omega) (by omega), wrap_id (x := (i : Int) + 1) (by omega) (by omega), chk_le (by omega), chk_lt (by omega), bt_at s i hi1, h1, e37, br_dec, if_pos rfl, br_gt (by omega), chk_le (by omega), chk_lt (by omega), b1, digit_ok, Option.bind_some, br_ge da, chk_le (by omega), chk_lt (by omega), b2, digit_ok, Option.bind_some]
  rw [ltI_eq, decide_eq_false (by omega), zzQueryUnescape_j1_eq, br_false, zzQueryUnescape_j3_eq, wrap_id (x := (i : Int) + 2) (by omega) (by omega), wrap_id (x := (i : Int) + 1) (by omega) (by omega), chk_le (by omega), chk_lt (by omega), b1, digit_ok, Option.bind_some, chk_le (by omega), chk_le (by omega), chk_lt (by omega), b2, digit_ok, Option.bind_some, hv', chk_lt (by rw [hl]; show (acc.length : Int) + 1 < _; omega), wrap_id (x := (i : Int) + 2 + 1) (by omega) (by omega), show (i : Int) + 2 + 1 = ((i + 1 + 1 + 1 : Nat) : Int) by omega]
  rw [show ints acc ++ [(((hexV a b).toNat : Nat) : Int)] = ints (acc ++ [hexV a b]) by rw [ints_append]; rfl]
theorem unq_loop (K : Nat) (s : ByteArray) (hs : s.size ≤ 100000) : ∀ (n : Nat) (rest cs : List UInt8) (k i : Nat) (acc : List UInt8), rest.length ≤ n → (B s).drop i = rest.flatMap rb → decT rest = some cs → acc.length ≤ i → i ≤ s.size → 4 * n + 1 ≤ k →
    zzQueryUnescape_l0 (K + 4) k s (ints acc) (i : Int) = some (⟨(acc ++ cs).toArray⟩, ())
  | _, [], cs, k, i, acc, _, hd, hc, ha, hi, hk => by
    obtain ⟨k, rfl⟩ : ∃ m, k = m + 1 := ⟨k - 1, by omega⟩
    have : s.size ≤ i := by
      have := congrArg List.length hd
      rw [List.length_drop, B_size, List.flatMap_nil, List.length_nil] at this
      omega
    cases hc
    rw [zzQueryUnescape_l0_eq, br_ge (by omega), List.append_nil, strOf_ints]
  | 0, c :: r, cs, k, i, acc, hn, hd, hc, ha, hi, hk => by simp at hn
  | n + 1, c :: r, cs, k, i, acc, hn, hd, hc, ha, hi, hk => by
    simp only [List.length_cons] at hn
    obtain ⟨k, rfl⟩ : ∃ m, k = m + 1 + 1 + 1 + 1 := ⟨k - 4, by omega⟩
    rw [List.flatMap_cons] at hd
    by_cases h37 : c = 37
    · subst h37
      match r, hc, hn, hd with
      | [], hc, _, _ => simp [decT] at hc
      | [a], hc, _, _ => simp [decT] at hc
      | a :: b :: r', hc, hn, hd =>
        rw [decT_pct] at hc
        split at hc
        · rename_i hh
          rw [Bool.and_eq_true] at hh
          cases e : decT r' with
          | none => rw [e] at hc; cases hc
          | some x =>
            rw [e] at hc
            cases hc
            rw [rb_ne 37 (by decide), List.flatMap_cons, List.flatMap_cons, rb_ne a (hex_ne a hh.1), rb_ne b (hex_ne b hh.2)] at hd
            obtain ⟨g1, g2, g3⟩ := unq_pct K k s hs i acc a b _ hd hh.1 hh.2 ha
            simp only [List.length_cons] at hn
            rw [g3, unq_loop K s hs n r' x k (i + 1 + 1 + 1) _ (by omega) g2 e (by rw [List.length_append]; simp; omega) (by omega) (by omega), List.append_assoc]
            rfl
        · cases hc
    · rw [decT_ne _ _ h37] at hc
      cases e : decT r with
      | none => rw [e] at hc; cases hc
      | some x =>
        rw [e] at hc
        cases hc
        by_cases h43 : c = 43
        · subst h43
          have hd' : (B s).drop i = 37 :: 50 :: 98 :: r.flatMap rb := hd
          obtain ⟨g1, g2, g3⟩ := unq_pct K k s hs i acc 50 98 _ hd' (by decide) (by decide) ha
          have hv : hexV 50 98 = 43 := by decide +kernel
          rw [g3, hv, unq_loop K s hs n r x k (i + 1 + 1 + 1) _ (by omega) g2 e (by rw [List.length_append]; simp; omega) (by omega) (by omega), List.append_assoc]
          rfl
        · rw [rb_ne c h43] at hd
          obtain ⟨g1, g2, g3⟩ := unq_plain K (k + 1 + 1) s hs i acc c _ hd h37 h43 ha
          rw [g3, unq_loop K s hs n r x (k + 1 + 1) (i + 1) _ (by omega) g2 e (by rw [List.length_append]; simp; omega) (by omega) (by omega), List.append_assoc]
          rfl
theorem unq_ok (K : Nat) (p cs : List UInt8) (hp : p.length ≤ 30000) (hd : decT p = some cs) (hK : 4 * p.length + 10 ≤ K) : zzQueryUnescape K ⟨(p.flatMap rb).toArray⟩ = some (⟨cs.toArray⟩, ()) := by
  obtain ⟨K, rfl⟩ : ∃ m, K = m + 4 + 1 := ⟨K - 5, by omega⟩
  have hl : (p.flatMap rb).length ≤ 3 * p.length := flat_len (f := rb) (n := 3) (fun c => by unfold rb repB; split <;> simp) p
  rw [zzQueryUnescape_eq]
  have := unq_loop K ⟨(p.flatMap rb).toArray⟩ (by rw [mk_size]; omega) p.length p cs (K + 4) 0 [] (Nat.le_refl _) rfl hd (by simp) (by omega) (by omega)
  simpa [ints] using this
theorem fd_gen (K : Nat) (hK : 3000 ≤ K) (x1 : ByteArray) (R : List Int) (hR : R.length ≤ 1000) (ts : List (List UInt8)) (hl : ts.length ≤ 300) (ht : ∀ t ∈ ts, t.length ≤ 200) : ∀ (d i k a : Nat) (acc x : List (Int × ByteArray)), i + d = ts.length → acc.length ≤ i → Rd R (ts.drop i) a x → 8 * d + 4 ≤ k →
    DiffFromDelta_l0 K k x1 acc (a : Int) R (mks ts) (ts.length : Int) (i : Int) = some (acc ++ x, ())
  | 0, i, k, a, acc, x, h, hal, hx, hk => by
    obtain ⟨k, rfl⟩ : ∃ m, k = m + 1 + 1 := ⟨k - 2, by omega⟩
    rw [List.drop_eq_nil_of_le (by omega)] at hx
    cases hx
    rw [DiffFromDelta_l0_eq, br_ge (by omega), DiffFromDelta_j1_eq, br_not, br_eq rfl, List.append_nil]
  | d + 1, i, k, a, acc, x, h, hal, hx, hk => by
    have hi : i < ts.length := by omega
    have htl := ht _ (List.getElem_mem hi)
    have hc : ts.drop i = ts[i] :: ts.drop (i + 1) := List.drop_eq_getElem_cons hi
    have hn := nth_mks ts i hi
    obtain ⟨k, rfl⟩ : ∃ m, k = m + 1 + 1 + 1 + 1 + 1 + 1 + 1 := ⟨k - 7, by omega⟩
    rw [DiffFromDelta_l0_eq, br_lt (by omega), DiffFromDelta_j0_eq, hn, mks_len, chk_le (by omega), chk_lt (by omega)]
    rw [hc] at hx
    generalize ts[i] = t at hx htl hn ⊢
    cases hx with
    | skip hx =>
      rw [br_eq (by rw [mk_size]; rfl), wrap_id (by omega) (by omega), show (i : Int) + 1 = ((i + 1 : Nat) : Int) by omega]
      exact fd_gen K hK x1 R hR ts hl ht d (i + 1) _ a acc x (by omega) (by omega) hx (by omega)
    | @ins p cs _ _ x hd hv hx =>
      rw [List.length_cons] at htl
      obtain ⟨p1, p2, p3⟩ := tok_parts 43 p
      have h3 := decT_len _ _ _ (Nat.le_refl _) hd
      have e3 : ValidString K (⟨cs.toArray⟩ : ByteArray) = some true := by
        obtain ⟨K', rfl⟩ : ∃ m, K = m + 1 := ⟨K - 1, by omega⟩
        show validE (⟨cs.toArray⟩ : ByteArray) = some true
        unfold validE
        rw [if_pos (by rw [mk_size]; omega)]
        exact congrArg some hv
      rw [br_ne (by omega), DiffFromDelta_j2_eq, p1, p2, p3, chk_le (by omega), chk_le (by omega), chk_le (by omega), chk_le (by omega), chk_lt (by omega), e43, br_dec, if_pos rfl, rep_ok K _ 43 _ (by decide) (by rw [mk_size]; omega) (by rw [mk_size]; omega), Option.bind_some]
      rw [show (B (⟨p.toArray⟩ : ByteArray)).flatMap (repB 43 (B ⟨#[37, 50, 98]⟩)) = p.flatMap rb from rfl, unq_ok K p cs (by omega) hd (by omega), Option.bind_some]
      show DiffFromDelta_j3 K _ x1 acc _ _ (⟨cs.toArray⟩ : ByteArray) _ _ _ = _
      rw [DiffFromDelta_j3_eq, e3, Option.bind_some, Bool.not_true, br_false, DiffFromDelta_j5_eq, wrap_id (by omega) (by omega), show (i : Int) + 1 = ((i + 1 : Nat) : Int) by omega]
      have hq : ((List.length acc : Int) + (List.length ([((1 : Int), (⟨cs.toArray⟩ : ByteArray))] : List TS0.den) : Int)) < 1000000000000 := by
        simp only [List.length_cons, List.length_nil]
        omega
      refine (chk_lt hq).trans ?_
      have := fd_gen K hK x1 R hR ts hl ht d (i + 1) (k + 1 + 1) a (acc ++ [(1, ⟨cs.toArray⟩)]) x (by omega) (by rw [List.length_append]; simp; omega) hx (by omega)
      rw [List.append_assoc] at this
      exact this
    | @num o ty p n _ _ x hty hp hn9 hle hx =>
      rw [List.length_cons] at htl
      obtain ⟨p1, p2, p3⟩ := tok_parts o p
      have hpar : ParseInt K ⟨p.toArray⟩ 10 0 = some ((n : Int), ()) := by
        obtain ⟨K', rfl⟩ : ∃ m, K = m + 1 := ⟨K - 1, by omega⟩
        exact hp
      have ho : o ≠ 43 := by rcases hty with ⟨h, _⟩ | ⟨h, _⟩ <;> (rw [h]; decide)
      rw [br_ne (by omega), DiffFromDelta_j2_eq, p1, p2, p3, chk_le (by omega), chk_le (by omega), chk_le (by omega), chk_le (by omega), chk_lt (by omega), e43, br_dec, if_neg ho, e61, e45, br_dec]
      have ecut : List.take (Int.toNat ((a + n : Nat) : Int) - Int.toNat (a : Int)) (List.drop (Int.toNat (a : Int)) R) = (R.drop a).take n := by
        rw [Int.toNat_natCast, Int.toNat_natCast, show a + n - a = n by omega]
      have nx := fd_gen K hK x1 R hR ts hl ht d (i + 1) (k + 1) (a + n) (acc ++ [(ty, strOfRunes ((R.drop a).take n))]) x (by omega) (by rw [List.length_append]; simp; omega) hx (by omega)
      rw [List.append_assoc] at nx
      have hq : ((List.length acc : Int) + (List.length ([((ty : Int), strOfRunes ((R.drop a).take n))] : List TS0.den) : Int)) < 1000000000000 := by
        simp only [List.length_cons, List.length_nil]
        omega
      have j4 : DiffFromDelta_j4 K (k + 1 + 1 + 1 + 1) x1 acc (a : Int) R ⟨(o :: p).toArray⟩ ⟨p.toArray⟩ ((o.toNat : Nat) : Int) (mks ts) (ts.length : Int) (i : Int) true = some (acc ++ (ty, strOfRunes ((R.drop a).take n)) :: x, ()) := by
        rw [DiffFromDelta_j4_eq, br_true, hpar, Option.bind_some]
        simp only []
        rw [br_ge (by omega), DiffFromDelta_j6_eq, wrap_id (x := (a : Int) + (n : Int)) (by omega) (by omega), wrap_id (by omega) (by omega), show (a : Int) + (n : Int) = ((a + n : Nat) : Int) by omega, show (i : Int) + 1 = ((i + 1 : Nat) : Int) by omega, br_ge (by omega), DiffFromDelta_j7_eq, wrap_id (x := ((a + n : Nat) : Int) - (n : Int)) (by omega) (by omega), wrap_id (by omega) (by omega), show ((a + n : Nat) : Int) - (n : Int) = (a : Int) by omega, show (i : Int) + 1 = ((i + 1 : Nat) : Int) by omega, chk_le (by omega), chk_le (by omega), chk_le (by omega), ecut, e61, br_dec]
        rcases hty with ⟨h1, h2⟩ | ⟨h1, h2⟩
        · rw [if_pos h1]
          rw [h2] at hq nx ⊢
          exact (chk_lt hq).trans nx
        · rw [if_neg (by rw [h1]; decide)]
          rw [h2] at hq nx ⊢
          exact (chk_lt hq).trans nx
      rcases hty with ⟨h1, h2⟩ | ⟨h1, h2⟩
      · rw [if_pos h1, decide_eq_true h1]
        exact j4
      · rw [if_neg (by rw [h1]; decide), decide_eq_true h1]
        exact j4
theorem fromdelta_gen (K : Nat) (hK : 300000 ≤ K) (s t : ByteArray) (hs : s.size ≤ 200) (ht : t.size ≤ 200) (x : List TS1.den) (hx : Rd (runesI s) (splitC 9 (B t)) 0 x) (hg : ∀ d ∈ x, -1 ≤ d.1 ∧ d.1 ≤ 1) (hxl : x.length ≤ 1000) : FromDelta K s t = some (x, ⟨#[]⟩) := by
  obtain ⟨K, rfl⟩ : ∃ m, K = m + 3 := ⟨K - 3, by omega⟩
  obtain ⟨X, hX⟩ := plain_ok (K + 2) (by omega)
  have h1 := runesI_le s
  obtain ⟨j1, j2, j3⟩ := join_len (splitC 9 (B t))
  have hj := splitC_join 9 (B t)
  have hB := B_size t
  have hjl := congrArg List.length hj
  rw [hjl] at j1 j2 j3
  have hsp := split_ok (K + 1) 9 (splitC 9 (B t)) (splitC_ne 9 _) (splitC_not 9 _) (by omega) (by omega) (by omega)
  rw [hj, show (⟨(B t).toArray⟩ : ByteArray) = t from mk_B t] at hsp
  have hm : ((splitC 9 (B t)).map fun t => (⟨t.toArray⟩ : ByteArray)) = mks (splitC 9 (B t)) := rfl
  have hdf : DiffFromDelta (K + 1 + 1) X s t = some (x, ()) := by
    rw [DiffFromDelta_eq, chk_nle (by omega), hsp, Option.bind_some, hm, mks_len]
    exact fd_gen (K + 1) (by omega) s (runesI s) (by omega) (splitC 9 (B t)) (by omega) (fun u hu => by have := j3 u hu; omega) (splitC 9 (B t)).length 0 (K + 1) 0 [] x (by omega) (by simp) hx (by omega)
  rw [FromDelta_eq, hX, Option.bind_some, hdf, Option.bind_some, show K + 2 = K + 1 + 1 from rfl, FromDelta_j0_eq, back_ok _ x (by omega) hg (by omega), Option.bind_some]
end Go.Proofs.YtfefjbifdbfmjaaDoor.E
