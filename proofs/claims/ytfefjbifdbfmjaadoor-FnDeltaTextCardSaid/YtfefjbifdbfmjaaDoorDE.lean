import Derived.Test.YtfefjbifdbfmjaaDoorDD
/- Deltas: what is written. -/
set_option linter.unusedVariables false
set_option linter.unusedSimpArgs false
namespace Go.Proofs.YtfefjbifdbfmjaaDoor.E
open Go.Ev
/-! ### bytes that stand as they are -/
noncomputable def unresT (n : Int) : Bool := (br (leI 97 n)
  (br (leI n 122)
   true
   (br (leI 65 n)
    (br (leI n 90)
     true
     (br (leI 48 n)
      (br (leI n 57)
       true
       (br (eqI n 45)
        true
        (br (eqI n 95)
         true
         (br (eqI n 46)
          true
          (eqI n 126)))))
      (br (eqI n 45)
       true
       (br (eqI n 95)
        true
        (br (eqI n 46)
         true
         (eqI n 126))))))
    (br (leI 48 n)
     (br (leI n 57)
      true
      (br (eqI n 45)
       true
       (br (eqI n 95)
        true
        (br (eqI n 46)
         true
         (eqI n 126)))))
     (br (eqI n 45)
      true
      (br (eqI n 95)
       true
       (br (eqI n 46)
        true
        (eqI n 126)))))))
  (br (leI 65 n)
   (br (leI n 90)
    true
    (br (leI 48 n)
     (br (leI n 57)
      true
      (br (eqI n 45)
       true
       (br (eqI n 95)
        true
        (br (eqI n 46)
         true
         (eqI n 126)))))
     (br (eqI n 45)
      true
      (br (eqI n 95)
       true
       (br (eqI n 46)
        true
        (eqI n 126))))))
   (br (leI 48 n)
    (br (leI n 57)
     true
     (br (eqI n 45)
      true
      (br (eqI n 95)
       true
       (br (eqI n 46)
        true
        (eqI n 126)))))
    (br (eqI n 45)
     true
     (br (eqI n 95)
      true
      (br (eqI n 46)
       true
       (eqI n 126)))))))
def unresD (n : Int) : Bool := (br (decide (97 ≤ n))
  (br (decide (n ≤ 122))
   true
   (br (decide (65 ≤ n))
    (br (decide (n ≤ 90))
     true
     (br (decide (48 ≤ n))
      (br (decide (n ≤ 57))
       true
       (br (decide (n = 45))
        true
        (br (decide (n = 95))
         true
         (br (decide (n = 46))
          true
          (decide (n = 126))))))
      (br (decide (n = 45))
       true
       (br (decide (n = 95))
        true
        (br (decide (n = 46))
         true
         (decide (n = 126)))))))
    (br (decide (48 ≤ n))
     (br (decide (n ≤ 57))
      true
      (br (decide (n = 45))
       true
       (br (decide (n = 95))
        true
        (br (decide (n = 46))
         true
         (decide (n = 126))))))
     (br (decide (n = 45))
      true
      (br (decide (n = 95))
       true
       (br (decide (n = 46))
        true
        (decide (n = 126))))))))
  (br (decide (65 ≤ n))
   (br (decide (n ≤ 90))
    true
    (br (decide (48 ≤ n))
     (br (decide (n ≤ 57))
      true
      (br (decide (n = 45))
       true
       (br (decide (n = 95))
        true
        (br (decide (n = 46))
         true
         (decide (n = 126))))))
     (br (decide (n = 45))
      true
      (br (decide (n = 95))
       true
       (br (decide (n = 46))
        true
        (decide (n = 126)))))))
   (br (decide (48 ≤ n))
    (br (decide (n ≤ 57))
     true
     (br (decide (n = 45))
      true
      (br (decide (n = 95))
       true
       (br (decide (n = 46))
        true
        (decide (n = 126))))))
    (br (decide (n = 45))
     true
     (br (decide (n = 95))
      true
      (br (decide (n = 46))
       true
       (decide (n = 126))))))))
theorem unres_eq (n : Int) : unresT n = unresD n := by
  unfold unresT unresD
  simp only [leI_eq, eqI_eq]
noncomputable def letT (n : Int) : Bool := br (leI 97 n)
  (br (leI n 122)
   true
   (br (leI 65 n)
    (br (leI n 90)
     true
     (br (leI 48 n)
      (leI n 57)
      false))
    (br (leI 48 n)
     (leI n 57)
     false)))
  (br (leI 65 n)
   (br (leI n 90)
    true
    (br (leI 48 n)
     (leI n 57)
     false))
   (br (leI 48 n)
    (leI n 57)
    false))
def letD (n : Int) : Bool := br (decide (97 ≤ n))
  (br (decide (n ≤ 122))
   true
   (br (decide (65 ≤ n))
    (br (decide (n ≤ 90))
     true
     (br (decide (48 ≤ n))
      (decide (n ≤ 57))
      false))
    (br (decide (48 ≤ n))
     (decide (n ≤ 57))
     false)))
  (br (decide (65 ≤ n))
   (br (decide (n ≤ 90))
    true
    (br (decide (48 ≤ n))
     (decide (n ≤ 57))
     false))
   (br (decide (48 ≤ n))
    (decide (n ≤ 57))
    false))
theorem let_eq (n : Int) : letT n = letD n := by
  unfold letT letD
  simp only [leI_eq]
def signs : List Int := ([45, 95, 46, 126, 33, 39, 40, 41, 59, 47, 63, 58, 64, 38, 61, 43, 36, 44, 35, 42, 32] : List Int)
def plainD (n : Int) : Bool := letD n || decide (n ∈ signs)
def unbS (x0 : ByteArray) : Int := if x0 = (⟨#[50, 49]⟩ : ByteArray) then 33 else (if x0 = (⟨#[55, 69]⟩ : ByteArray) then 126 else (if x0 = (⟨#[50, 55]⟩ : ByteArray) then 39 else (if x0 = (⟨#[50, 56]⟩ : ByteArray) then 40 else (if x0 = (⟨#[50, 57]⟩ : ByteArray) then 41 else (if x0 = (⟨#[51, 66]⟩ : ByteArray) then 59 else (if x0 = (⟨#[50, 70]⟩ : ByteArray) then 47 else (if x0 = (⟨#[51, 70]⟩ : ByteArray) then 63 else (if x0 = (⟨#[51, 65]⟩ : ByteArray) then 58 else (if x0 = (⟨#[52, 48]⟩ : ByteArray) then 64 else (if x0 = (⟨#[50, 54]⟩ : ByteArray) then 38 else (if x0 = (⟨#[51, 68]⟩ : ByteArray) then 61 else (if x0 = (⟨#[50, 66]⟩ : ByteArray) then 43 else (if x0 = (⟨#[50, 52]⟩ : ByteArray) then 36 else (if x0 = (⟨#[50, 67]⟩ : ByteArray) then 44 else (if x0 = (⟨#[50, 51]⟩ : ByteArray) then 35 else (if x0 = (⟨#[50, 65]⟩ : ByteArray) then 42 else 0))))))))))))))))
theorem ite_some {c : Prop} [Decidable c] (a : Int) (X : Option Int) (b : Int) (h : X = some b) : (if c then some a else X) = some (if c then a else b) := by
  split
  · rfl
  · exact h
theorem unescaped_ok (K : Nat) (s : ByteArray) : zzUnescaped (K + 1) s = some (unbS s) := by
  rw [zzUnescaped_eq]
  unfold unbS
  simp only [eqS_iff, br_dec]
  repeat (first | exact rfl | refine ite_some _ _ _ ?_)
def hx (n : Nat) : UInt8 := ([48, 49, 50, 51, 52, 53, 54, 55, 56, 57, 65, 66, 67, 68, 69, 70] : List UInt8).getD n 0
def pct (c : UInt8) : List UInt8 := [37, hx (c.toNat / 16), hx (c.toNat % 16)]
theorem nib_fin : ∀ n : Fin 256, (Int.fdiv (n.val : Int) (2 ^ min (Int.toNat 4) (IntKind.u8).bits)) = ((n.val / 16 : Nat) : Int) ∧ (IntKind.u8.wrap (BitVec.toNat (BitVec.ofInt (IntKind.u8).bits (n.val : Int) &&& BitVec.ofInt (IntKind.u8).bits 15))) = ((n.val % 16 : Nat) : Int) := by decide +kernel
theorem nib1 (c : UInt8) : (Int.fdiv (c.toNat : Int) (2 ^ min (Int.toNat 4) (IntKind.u8).bits)) = ((c.toNat / 16 : Nat) : Int) := (nib_fin ⟨c.toNat, c.toNat_lt⟩).1
theorem nib2 (c : UInt8) : (IntKind.u8.wrap (BitVec.toNat (BitVec.ofInt (IntKind.u8).bits (c.toNat : Int) &&& BitVec.ofInt (IntKind.u8).bits 15))) = ((c.toNat % 16 : Nat) : Int) := (nib_fin ⟨c.toNat, c.toNat_lt⟩).2
theorem hx_fin : ∀ n : Fin 16, bt (⟨#[48, 49, 50, 51, 52, 53, 54, 55, 56, 57, 65, 66, 67, 68, 69, 70]⟩ : ByteArray) (n.val : Int) = ((hx n.val).toNat : Int) := by decide +kernel
theorem hx_bt (n : Nat) (h : n < 16) : bt (⟨#[48, 49, 50, 51, 52, 53, 54, 55, 56, 57, 65, 66, 67, 68, 69, 70]⟩ : ByteArray) (n : Int) = ((hx n).toNat : Int) := hx_fin ⟨n, h⟩
theorem hexsz : ((ByteArray.size (⟨#[48, 49, 50, 51, 52, 53, 54, 55, 56, 57, 65, 66, 67, 68, 69, 70]⟩ : ByteArray) : Nat) : Int) = 16 := rfl
theorem c16 (c : UInt8) : c.toNat / 16 < 16 ∧ c.toNat % 16 < 16 := by
  have := c.toNat_lt
  omega
theorem ints_pct (c : UInt8) : ([37, (bt (⟨#[48, 49, 50, 51, 52, 53, 54, 55, 56, 57, 65, 66, 67, 68, 69, 70]⟩ : ByteArray) ((c.toNat / 16 : Nat) : Int)), (bt (⟨#[48, 49, 50, 51, 52, 53, 54, 55, 56, 57, 65, 66, 67, 68, 69, 70]⟩ : ByteArray) ((c.toNat % 16 : Nat) : Int))] : List Int) = ints (pct c) := by
  rw [hx_bt _ (c16 c).1, hx_bt _ (c16 c).2]
  rfl
/-- A byte as 'zzQueryEscape' writes it; and then with signs of blanks made blanks. -/
def qescB (c : UInt8) : List UInt8 := if unresD c.toNat then [c] else if c = 32 then [43] else pct c
def escD (c : UInt8) : List UInt8 := if unresD c.toNat then [c] else if c = 32 then [32] else pct c
theorem escD_fin : ∀ n : Fin 256, (qescB (UInt8.ofNat n.val)).flatMap (repB 43 [32]) = escD (UInt8.ofNat n.val) := by decide +kernel
theorem escD_eq (c : UInt8) : (qescB c).flatMap (repB 43 [32]) = escD c := by
  have := escD_fin ⟨c.toNat, c.toNat_lt⟩
  simpa using this
theorem escD_all (l : List UInt8) : (l.flatMap qescB).flatMap (repB 43 [32]) = l.flatMap escD := by
  rw [List.flatMap_assoc]
  congr 1
  funext c
  exact escD_eq c
/-- A byte as the specification writes it. -/
def specD (c : UInt8) : List UInt8 := if plainD c.toNat then [c] else pct c
theorem qescB_len (c : UInt8) : (qescB c).length ≤ 3 := by
  unfold qescB pct
  repeat' split
  all_goals simp
theorem escD_len (c : UInt8) : (escD c).length ≤ 3 := by
  unfold escD pct
  repeat' split
  all_goals simp
theorem specD_len (c : UInt8) : (specD c).length ≤ 3 := by
  unfold specD pct
  repeat' split
  all_goals simp
theorem e32 (c : UInt8) : eqI (c.toNat : Int) 32 = decide (c = 32) := u8e c 32 (by omega)
theorem e37 (c : UInt8) : eqI (c.toNat : Int) 37 = decide (c = 37) := u8e c 37 (by omega)
theorem qesc_loop (K : Nat) (s : ByteArray) (hs : s.size ≤ 100000) : ∀ (d i k : Nat) (acc : List UInt8), i + d = s.size → acc.length ≤ 3 * i → 3 * d + 1 ≤ k →
    zzQueryEscape_l0 K k s (ints acc) (i : Int) = some ⟨(acc ++ ((B s).drop i).flatMap qescB).toArray⟩
  | 0, i, k, acc, h, ha, hk => by
    obtain ⟨k, rfl⟩ : ∃ m, k = m + 1 := ⟨k - 1, by omega⟩
    rw [zzQueryEscape_l0_eq]
    simp (disch := omega) only [chk_le, chk_lt, chk_eq, chk_nle, chk_neq, br_lt, br_ge, br_le, br_gt, br_eq, br_ne, br_not, br_true, br_false, br_and, wrap_id, Option.bind_some, List.length_set, List.length_append, List.length_cons, List.length_nil, List.length_take, List.length_drop]
    rw [List.drop_eq_nil_of_le (by rw [B_size]; omega), List.flatMap_nil, List.append_nil, strOf_ints]
  | d + 1, i, k, acc, h, ha, hk => by
    obtain ⟨k, rfl⟩ : ∃ m, k = m + 1 := ⟨k - 1, by omega⟩
    obtain ⟨k, rfl⟩ : ∃ m, k = m + 1 := ⟨k - 1, by omega⟩
    obtain ⟨k, rfl⟩ : ∃ m, k = m + 1 := ⟨k - 1, by omega⟩
    have hi : i < (B s).length := by rw [B_size]; omega
    have hl := ints_len acc
    have step : ∀ x : List UInt8, x.length ≤ 3 → qescB (B s)[i] = x → zzQueryEscape_l0 K k s (ints acc ++ ints x) (IntKind.i64.wrap ((i : Int) + 1)) = some ⟨(acc ++ ((B s).drop i).flatMap qescB).toArray⟩ := by
      intro x hx he
      rw [wrap_id (by omega) (by omega), show (i : Int) + 1 = ((i + 1 : Nat) : Int) by omega, ← ints_append, qesc_loop K s hs d (i + 1) k _ (by omega) (by rw [List.length_append]; omega) (by omega), List.drop_eq_getElem_cons hi, List.flatMap_cons, he, List.append_assoc]
    have lim : ∀ (n : Nat) (o : Option ByteArray), n ≤ 5 → chk (ltI (((ints acc).length : Int) + (n : Int)) 1000000000000) o = o := fun n o hn => chk_lt (by rw [hl]; omega)
    have ap : ∀ (c a b : Bool), br c (zzQueryEscape_j1 K (k + 1) s (ints acc) (i : Int) (((B s)[i]).toNat : Int) a) (zzQueryEscape_j1 K (k + 1) s (ints acc) (i : Int) (((B s)[i]).toNat : Int) b) = zzQueryEscape_j1 K (k + 1) s (ints acc) (i : Int) (((B s)[i]).toNat : Int) (br c a b) := by
      intro c a b
      cases c <;> rfl
    rw [zzQueryEscape_l0_eq, br_lt (by omega), zzQueryEscape_j0_eq, chk_le (by omega), chk_lt (by omega), bt_at s i (by omega)]
    simp only [ap]
    show zzQueryEscape_j1 K (k + 1) s (ints acc) (i : Int) (((B s)[i]).toNat : Int) (unresT (((B s)[i]).toNat : Int)) = _
    rw [unres_eq, zzQueryEscape_j1_eq, nib1, nib2, ints_pct, e32, br_dec]
    unfold qescB at step
    have h16 := c16 (B s)[i]
    by_cases c1 : unresD (((B s)[i]).toNat : Int) = true
    · rw [if_pos c1] at step
      rw [c1, br_true]
      exact (lim 1 _ (by omega)).trans (step _ (by simp) rfl)
    · rw [if_neg c1] at step
      rw [show unresD (((B s)[i]).toNat : Int) = false by simpa using c1, br_false]
      split
      · rename_i c2
        rw [if_pos c2] at step
        exact (lim 1 _ (by omega)).trans (step _ (by simp) rfl)
      · rename_i c2
        rw [if_neg c2] at step
        rw [hexsz, chk_le (by omega), chk_le (by omega), chk_lt (show ((((B s)[i]).toNat / 16 : Nat) : Int) < 16 by omega), chk_le (by omega), chk_lt (show ((((B s)[i]).toNat % 16 : Nat) : Int) < 16 by omega)]
        exact (lim 3 _ (by omega)).trans (step (pct (B s)[i]) (by simp [pct]) rfl)
theorem qesc_ok (K : Nat) (s : ByteArray) (hs : s.size ≤ 100000) (hK : 3 * s.size + 2 ≤ K) : zzQueryEscape K s = some ⟨((B s).flatMap qescB).toArray⟩ := by
  obtain ⟨K, rfl⟩ : ∃ m, K = m + 1 := ⟨K - 1, by omega⟩
  rw [zzQueryEscape_eq]
  have := qesc_loop K s hs s.size 0 K [] (by omega) (by simp) (by omega)
  simpa [ints] using this
/-! ### the specification's bytes -/
theorem sign_loop (K : Nat) (n : Int) (L : List Int) (hL : L.length ≤ 100) : ∀ (d i k : Nat), i + d = L.length → 2 * d + 1 ≤ k → deltaPlain_l0 K k n L (L.length : Int) (i : Int) = some (decide (n ∈ L.drop i))
  | 0, i, k, h, hk => by
    obtain ⟨k, rfl⟩ : ∃ m, k = m + 1 := ⟨k - 1, by omega⟩
    rw [deltaPlain_l0_eq, br_ge (by omega), List.drop_eq_nil_of_le (by omega)]
    rfl
  | d + 1, i, k, h, hk => by
    obtain ⟨k, rfl⟩ : ∃ m, k = m + 1 := ⟨k - 1, by omega⟩
    obtain ⟨k, rfl⟩ : ∃ m, k = m + 1 := ⟨k - 1, by omega⟩
    have hi : i < L.length := by omega
    have hn : nth (.int .u8) L (i : Int) = L[i] := nth_at (.int .u8) L i hi
    rw [deltaPlain_l0_eq, br_lt (by omega), deltaPlain_j2_eq, chk_le (by omega), chk_lt (by omega), hn, eqI_eq, br_dec, wrap_id (by omega) (by omega), show (i : Int) + 1 = ((i + 1 : Nat) : Int) by omega, sign_loop K n L hL d (i + 1) k (by omega) (by omega), List.drop_eq_getElem_cons hi]
    by_cases c : L[i] = n
    · rw [if_pos c, decide_eq_true (by rw [c]; exact List.mem_cons_self ..)]
    · rw [if_neg c]
      congr 1
      apply decide_eq_decide.2
      constructor
      · exact List.mem_cons_of_mem _
      · intro hm
        rcases List.mem_cons.1 hm with h | h
        · exact absurd h.symm c
        · exact h
theorem plain_byte (K : Nat) (n : Int) (hK : 60 ≤ K) : deltaPlain K n = some (plainD n) := by
  obtain ⟨K, rfl⟩ : ∃ m, K = m + 1 := ⟨K - 1, by omega⟩
  obtain ⟨K, rfl⟩ : ∃ m, K = m + 1 := ⟨K - 1, by omega⟩
  obtain ⟨K, rfl⟩ : ∃ m, K = m + 1 := ⟨K - 1, by omega⟩
  have ap : ∀ (c a b : Bool), br c (deltaPlain_j0 (K + 1 + 1) (K + 1 + 1) n a) (deltaPlain_j0 (K + 1 + 1) (K + 1 + 1) n b) = deltaPlain_j0 (K + 1 + 1) (K + 1 + 1) n (br c a b) := by
    intro c a b
    cases c <;> rfl
  rw [deltaPlain_eq]
  simp only [ap]
  show deltaPlain_j0 (K + 1 + 1) (K + 1 + 1) n (letT n) = _
  rw [let_eq, deltaPlain_j0_eq]
  unfold plainD
  cases c : letD n with
  | true => rfl
  | false =>
    rw [br_false, deltaPlain_j1_eq]
    have := sign_loop (K + 1 + 1) n signs (by decide) signs.length 0 K (by omega) (by have : signs.length = 21 := rfl; omega)
    rw [List.drop_zero] at this
    exact this
theorem dspec_loop (K : Nat) (hK : 60 ≤ K) (s : ByteArray) (hs : s.size ≤ 100000) : ∀ (d i k : Nat) (acc : List UInt8), i + d = s.size → acc.length ≤ 3 * i → 2 * d + 1 ≤ k →
    DeltaEscaped_l0 K k s (ints acc) (s.size : Int) (i : Int) = some ⟨(acc ++ ((B s).drop i).flatMap specD).toArray⟩
  | 0, i, k, acc, h, ha, hk => by
    obtain ⟨k, rfl⟩ : ∃ m, k = m + 1 := ⟨k - 1, by omega⟩
    rw [DeltaEscaped_l0_eq]
    simp (disch := omega) only [chk_le, chk_lt, chk_eq, chk_nle, chk_neq, br_lt, br_ge, br_le, br_gt, br_eq, br_ne, br_not, br_true, br_false, br_and, wrap_id, Option.bind_some, List.length_set, List.length_append, List.length_cons, List.length_nil, List.length_take, List.length_drop]
    rw [List.drop_eq_nil_of_le (by rw [B_size]; omega), List.flatMap_nil, List.append_nil, strOf_ints]
  | d + 1, i, k, acc, h, ha, hk => by
    obtain ⟨k, rfl⟩ : ∃ m, k = m + 1 := ⟨k - 1, by omega⟩
    obtain ⟨k, rfl⟩ : ∃ m, k = m + 1 := ⟨k - 1, by omega⟩
    have hi : i < (B s).length := by rw [B_size]; omega
    have hl := ints_len acc
    have step : ∀ x : List UInt8, x.length ≤ 3 → specD (B s)[i] = x → DeltaEscaped_l0 K k s (ints acc ++ ints x) (s.size : Int) (IntKind.i64.wrap ((i : Int) + 1)) = some ⟨(acc ++ ((B s).drop i).flatMap specD).toArray⟩ := by
      intro x hx he
      rw [wrap_id (by omega) (by omega), show (i : Int) + 1 = ((i + 1 : Nat) : Int) by omega, ← ints_append, dspec_loop K hK s hs d (i + 1) k _ (by omega) (by rw [List.length_append]; omega) (by omega), List.drop_eq_getElem_cons hi, List.flatMap_cons, he, List.append_assoc]
    have lim : ∀ (n : Nat) (o : Option ByteArray), n ≤ 5 → chk (ltI (((ints acc).length : Int) + (n : Int)) 1000000000000) o = o := fun n o hn => chk_lt (by rw [hl]; omega)
    have h16 := c16 (B s)[i]
    rw [DeltaEscaped_l0_eq, br_lt (by omega), DeltaEscaped_j0_eq, chk_le (by omega), chk_lt (by omega), bt_at s i (by omega), plain_byte K _ hK, Option.bind_some, nib1, nib2, ints_pct]
    unfold specD at step
    cases c1 : plainD (((B s)[i]).toNat : Int) with
    | true =>
      rw [if_pos c1] at step
      rw [br_true, chk_le (by omega), chk_lt (by omega)]
      exact (lim 1 _ (by omega)).trans (step _ (by simp) rfl)
    | false =>
      rw [if_neg (by rw [c1]; simp)] at step
      rw [hexsz, br_false, chk_le (by omega), chk_lt (by omega), chk_le (by omega), chk_le (by omega), chk_lt (show ((((B s)[i]).toNat / 16 : Nat) : Int) < 16 by omega), chk_le (by omega), chk_lt (by omega), chk_le (by omega), chk_lt (show ((((B s)[i]).toNat % 16 : Nat) : Int) < 16 by omega)]
      exact (lim 3 _ (by omega)).trans (step (pct (B s)[i]) (by simp [pct]) rfl)
theorem dspec_ok (K : Nat) (s : ByteArray) (hs : s.size ≤ 100000) (hK : 2 * s.size + 70 ≤ K) : DeltaEscaped K s = some ⟨((B s).flatMap specD).toArray⟩ := by
  obtain ⟨K, rfl⟩ : ∃ m, K = m + 1 := ⟨K - 1, by omega⟩
  rw [DeltaEscaped_eq]
  have := dspec_loop K (by omega) s hs s.size 0 K [] (by omega) (by simp) (by omega)
  simpa [ints] using this
/-! ### numbers -/
theorem num_fin : ∀ n : Fin 100, (IntKind.u8.wrap (IntKind.i64.wrap (48 + (Int.tmod (n.val : Int) 10)))) = (((UInt8.ofNat (48 + n.val % 10)).toNat : Nat) : Int) ∧ (IntKind.i64.wrap (Int.tdiv (n.val : Int) 10)) = ((n.val / 10 : Nat) : Int) ∧ (n.val < 10 → (IntKind.u8.wrap (IntKind.i64.wrap (48 + (n.val : Int)))) = (((UInt8.ofNat (48 + n.val)).toNat : Nat) : Int)) := by decide +kernel
theorem number_ok (K n : Nat) (hn : n < 100) (hK : 10 ≤ K) : deltaNumber K (n : Int) = some ⟨(itoa2 n).toArray⟩ := by
  obtain ⟨K, rfl⟩ : ∃ m, K = m + 1 := ⟨K - 1, by omega⟩
  obtain ⟨K, rfl⟩ : ∃ m, K = m + 1 := ⟨K - 1, by omega⟩
  obtain ⟨K, rfl⟩ : ∃ m, K = m + 1 := ⟨K - 1, by omega⟩
  obtain ⟨K, rfl⟩ : ∃ m, K = m + 1 := ⟨K - 1, by omega⟩
  obtain ⟨K, rfl⟩ : ∃ m, K = m + 1 := ⟨K - 1, by omega⟩
  have one : ∀ (K' k m : Nat) (acc : List UInt8), m < 10 → acc.length ≤ 1 → deltaNumber_l0 K' (k + 1 + 1) (m : Int) ⟨acc.toArray⟩ = some ⟨(UInt8.ofNat (48 + m) :: acc).toArray⟩ := by
    intro K' k m acc hm ha
    have h1 := (num_fin ⟨m, by omega⟩).2.2 hm
    rw [deltaNumber_l0_eq, br_gt (by omega), deltaNumber_j1_eq]
    simp only [] at h1
    rw [h1]
    rw [show ([(((UInt8.ofNat (48 + m)).toNat : Nat) : Int)] : List Int) = ints [UInt8.ofNat (48 + m)] from rfl, strOf_ints, mk_size, mk_size, chk_nle (by simp; omega), mk_append]
    rfl
  rw [deltaNumber_eq]
  unfold itoa2
  by_cases h : n < 10
  · rw [if_pos h]
    exact one _ _ n [] h (by simp)
  · rw [if_neg h, if_pos hn]
    obtain ⟨h1, h2, _⟩ := num_fin ⟨n, hn⟩
    simp only [] at h1 h2
    rw [deltaNumber_l0_eq, br_le (by omega), deltaNumber_j0_eq, h1, h2, show ([(((UInt8.ofNat (48 + n % 10)).toNat : Nat) : Int)] : List Int) = ints [UInt8.ofNat (48 + n % 10)] from rfl, strOf_ints]
    rw [chk_neq (by omega), mk_size, show ByteArray.size ⟨#[]⟩ = 0 from rfl, chk_nle (by simp), chk_neq (by omega), show (⟨#[]⟩ : ByteArray) = ⟨([] : List UInt8).toArray⟩ from rfl, mk_append]
    exact one _ _ (n / 10) [UInt8.ofNat (48 + n % 10)] (by omega) (by simp)
end Go.Proofs.YtfefjbifdbfmjaaDoor.E
