import Derived.Test.YtfefjbifdbfmjaaDoorDH
/- Deltas: what is read. -/
set_option linter.unusedVariables false
set_option linter.unusedSimpArgs false
namespace Go.Proofs.YtfefjbifdbfmjaaDoor.E
open Go.Ev
/-! ### a text split at a byte -/
def joinB (c : UInt8) : List (List UInt8) → List UInt8
  | [] => []
  | [t] => t
  | t :: u :: r => t ++ c :: joinB c (u :: r)
theorem split_loop (K : Nat) (c : UInt8) : ∀ (ts : List (List UInt8)) (k : Nat) (acc : List ByteArray), ts ≠ [] → (∀ t ∈ ts, c ∉ t) → (joinB c ts).length ≤ 100000 → acc.length + ts.length ≤ 1000000 → 2 * (joinB c ts).length + 2 ≤ K → 2 * ts.length + 1 ≤ k →
    zzSplit_l0 K k ⟨(joinB c ts).toArray⟩ ⟨#[c]⟩ acc = some (acc ++ ts.map fun t => ⟨t.toArray⟩)
  | [], _, _, h, _, _, _, _, _ => absurd rfl h
  | [t], k, acc, _, hn, hs, ha, hK, hk => by
    obtain ⟨k, rfl⟩ : ∃ m, k = m + 1 := ⟨k - 1, by omega⟩
    have hi := (idx_ok K ⟨t.toArray⟩ c (by rw [mk_size]; exact Nat.le_trans hs (by omega)) (by rw [mk_size]; exact hK)).2 (hn t (List.mem_cons_self ..))
    rw [zzSplit_l0_eq]
    show Option.bind (zzIndex K ⟨t.toArray⟩ ⟨#[c]⟩) _ = _
    rw [hi, Option.bind_some, br_lt (by omega)]
    simp only [List.length_cons, List.length_nil] at ha ⊢
    rw [chk_lt (by omega)]
    rfl
  | t :: u :: r, k, acc, _, hn, hs, ha, hK, hk => by
    simp only [List.length_cons] at ha hk
    obtain ⟨k, rfl⟩ : ∃ m, k = m + 1 := ⟨k - 1, by omega⟩
    obtain ⟨k, rfl⟩ : ∃ m, k = m + 1 := ⟨k - 1, by omega⟩
    have hb : B (⟨(joinB c (t :: u :: r)).toArray⟩ : ByteArray) = t ++ c :: joinB c (u :: r) := rfl
    have hlen : (joinB c (t :: u :: r)).length = t.length + 1 + (joinB c (u :: r)).length := by
      show (t ++ c :: joinB c (u :: r)).length = _
      rw [List.length_append, List.length_cons]
      omega
    have hi := (idx_ok K ⟨(joinB c (t :: u :: r)).toArray⟩ c (by rw [mk_size]; exact Nat.le_trans hs (by omega)) (by rw [mk_size]; exact hK)).1 t _ hb (hn t (List.mem_cons_self ..))
    have h1 : ((ByteArray.size ⟨#[c]⟩ : Nat) : Int) = 1 := rfl
    have e1 : ByteArray.extract ⟨(joinB c (t :: u :: r)).toArray⟩ (Int.toNat 0) (Int.toNat (t.length : Int)) = ⟨t.toArray⟩ := B_inj (by
      rw [B_extract, hb]
      simp [B])
    have e2 : ByteArray.extract ⟨(joinB c (t :: u :: r)).toArray⟩ (Int.toNat ((t.length : Int) + 1)) (Int.toNat ((joinB c (t :: u :: r)).length : Int)) = ⟨(joinB c (u :: r)).toArray⟩ := B_inj (by
      rw [B_extract, hb, show Int.toNat ((t.length : Int) + 1) = t.length + 1 by omega, ← List.drop_drop, List.drop_left']
      · simp only [List.drop_succ_cons, List.drop_zero]
        rw [List.take_of_length_le (by omega)]
        rfl
      · rfl)
    rw [zzSplit_l0_eq, hi, Option.bind_some, br_ge (by omega), zzSplit_j0_eq, h1, mk_size, wrap_id (by omega) (by omega), e1, e2]
    simp only [List.length_cons, List.length_nil]
    rw [chk_le (by omega), chk_le (by omega), chk_le (by omega), chk_lt (by omega), chk_le (by omega), chk_le (by omega), chk_le (by omega)]
    rw [split_loop K c (u :: r) k _ (by simp) (fun x hx => hn x (List.mem_cons_of_mem _ hx)) (by omega) (by rw [List.length_append]; simp; omega) (by omega) (by simp; omega)]
    simp
theorem split_ok (K : Nat) (c : UInt8) (ts : List (List UInt8)) (h0 : ts ≠ []) (hn : ∀ t ∈ ts, c ∉ t) (hs : (joinB c ts).length ≤ 100000) (hl : ts.length ≤ 1000) (hK : 2 * (joinB c ts).length + 2 * ts.length + 5 ≤ K) :
    zzSplit K ⟨(joinB c ts).toArray⟩ ⟨#[c]⟩ = some (ts.map fun t => ⟨t.toArray⟩) := by
  obtain ⟨K, rfl⟩ : ∃ m, K = m + 1 := ⟨K - 1, by omega⟩
  rw [zzSplit_eq, show ((ByteArray.size ⟨#[c]⟩ : Nat) : Int) = 1 from rfl, br_ne (by omega)]
  have := split_loop K c ts K [] h0 hn hs (by simp; omega) (by omega) (by omega)
  simpa using this
/-! ### escapes read -/
def digD (n : Int) : Int := if 48 ≤ n ∧ n ≤ 57 then IntKind.u8.wrap (n - 48) else if 97 ≤ n ∧ n ≤ 102 then IntKind.u8.wrap ((IntKind.u8.wrap (n - 97)) + 10) else if 65 ≤ n ∧ n ≤ 70 then IntKind.u8.wrap ((IntKind.u8.wrap (n - 65)) + 10) else 16
theorem digit_ok (K : Nat) (n : Int) : zzDigit (K + 4) n = some (digD n) := by
  have two : ∀ (a b : Prop) [Decidable a] [Decidable b] (X Y : Option Int), (if a then (if b then X else Y) else Y) = if a ∧ b then X else Y := by
    intro a b _ _ X Y
    by_cases h1 : a <;> by_cases h2 : b <;> simp [h1, h2]
  have e1 : ∀ (f : Bool → Option Int) (a b : Prop) [Decidable a] [Decidable b], (if a then f (decide b) else f false) = if a ∧ b then f true else f false := by
    intro f a b _ _
    by_cases h1 : a <;> by_cases h2 : b <;> simp [h1, h2]
  rw [show K + 4 = K + 3 + 1 from rfl, zzDigit_eq]
  simp only [leI_eq, br_dec]
  rw [e1 (zzDigit_j0 (K + 3) (K + 3) n), show K + 3 = K + 2 + 1 from rfl, zzDigit_j0_eq, zzDigit_j0_eq, br_true, br_false]
  simp only [leI_eq, br_dec]
  rw [e1 (zzDigit_j1 (K + 2 + 1) (K + 2) n), show K + 2 = K + 1 + 1 from rfl, zzDigit_j1_eq, zzDigit_j1_eq, br_true, br_false]
  simp only [leI_eq, br_dec]
  rw [e1 (zzDigit_j2 (K + 1 + 1 + 1) (K + 1) n), zzDigit_j2_eq, zzDigit_j2_eq, br_true, br_false]
  unfold digD
  split
  · rfl
  · split
    · rfl
    · split <;> rfl
/-- A byte of a specified text, signs of addition written out. -/
def specR (c : UInt8) : List UInt8 := if plainD c.toNat then (if c = 43 then [37, 50, 98] else [c]) else pct c
theorem specR_fin : ∀ n : Fin 256, (specD (UInt8.ofNat n.val)).flatMap (repB 43 [37, 50, 98]) = specR (UInt8.ofNat n.val) := by decide +kernel
theorem specR_all (l : List UInt8) : (l.flatMap specD).flatMap (repB 43 [37, 50, 98]) = l.flatMap specR := by
  rw [List.flatMap_assoc]
  congr 1
  funext c
  have := specR_fin ⟨c.toNat, c.toNat_lt⟩
  simpa using this
theorem specR_len (c : UInt8) : (specR c).length ≤ 3 := by
  unfold specR pct
  repeat' split
  all_goals simp
def decV (a b : UInt8) : Int := IntKind.u8.wrap (BitVec.toNat (BitVec.ofInt (IntKind.u8).bits (IntKind.u8.wrap (digD (a.toNat : Int) * 2 ^ min (Int.toNat 4) (IntKind.u8).bits)) ||| BitVec.ofInt (IntKind.u8).bits (digD (b.toNat : Int))))
theorem read_fin : ∀ n : Fin 256, (∃ x : UInt8, specR (UInt8.ofNat n.val) = [x] ∧ x = UInt8.ofNat n.val ∧ x ≠ 37 ∧ x ≠ 43) ∨ (∃ a b : UInt8, specR (UInt8.ofNat n.val) = [37, a, b] ∧ digD (a.toNat : Int) ≤ 15 ∧ digD (b.toNat : Int) ≤ 15 ∧ decV a b = (n.val : Int)) := by
  have h : ∀ n : Fin 256, (match specR (UInt8.ofNat n.val) with
    | [x] => decide (x = UInt8.ofNat n.val ∧ x ≠ 37 ∧ x ≠ 43)
    | [p, a, b] => decide (p = 37 ∧ digD (a.toNat : Int) ≤ 15 ∧ digD (b.toNat : Int) ≤ 15 ∧ decV a b = (n.val : Int))
    | _ => false) = true := by decide +kernel
  intro n
  have := h n
  split at this
  · rename_i x hx
    exact .inl ⟨x, hx, of_decide_eq_true this⟩
  · rename_i p a b hx
    obtain ⟨rfl, h2⟩ := of_decide_eq_true this
    exact .inr ⟨a, b, hx, h2⟩
  · cases this
theorem e43 (c : UInt8) : eqI (c.toNat : Int) 43 = decide (c = 43) := u8e c 43 (by omega)
theorem read_loop (K : Nat) (s : ByteArray) (hs : s.size ≤ 100000) : ∀ (cs : List UInt8) (k i : Nat) (acc : List UInt8), (B s).drop i = cs.flatMap specR → acc.length ≤ i → i ≤ s.size → 4 * cs.length + 1 ≤ k →
    zzQueryUnescape_l0 (K + 4) k s (ints acc) (i : Int) = some (⟨(acc ++ cs).toArray⟩, ())
  | [], k, i, acc, hd, ha, hi, hk => by
    obtain ⟨k, rfl⟩ : ∃ m, k = m + 1 := ⟨k - 1, by omega⟩
    have : s.size ≤ i := by
      have := congrArg List.length hd
      rw [List.length_drop, B_size, List.flatMap_nil, List.length_nil] at this
      omega
    rw [zzQueryUnescape_l0_eq, br_ge (by omega), List.append_nil, strOf_ints]
  | c :: cs, k, i, acc, hd, ha, hi, hk => by
    have hl := ints_len acc
    rw [List.length_cons] at hk
    obtain ⟨k, rfl⟩ : ∃ m, k = m + 1 + 1 + 1 + 1 := ⟨k - 4, by omega⟩
    rw [List.flatMap_cons] at hd
    have hf := read_fin ⟨c.toNat, c.toNat_lt⟩
    simp only [UInt8.ofNat_toNat] at hf
    rcases hf with ⟨x, hx, rfl, h37, h43⟩ | ⟨a, b, hx, da, db, hv⟩
    · rw [hx] at hd
      obtain ⟨hi', h1, h2⟩ := at_drop (show (B s).drop i = x :: cs.flatMap specR from hd)
      rw [B_size] at hi'
      rw [zzQueryUnescape_l0_eq, br_lt (by omega), zzQueryUnescape_j0_eq, chk_le (by omega), chk_lt (by omega), bt_at s i hi', h1, e37, br_dec, if_neg h37, e43, br_dec, if_neg h43, chk_le (by omega), chk_lt (by omega), chk_lt (by rw [hl]; show (acc.length : Int) + 1 < _; omega), wrap_id (by omega) (by omega), show (i : Int) + 1 = ((i + 1 : Nat) : Int) by omega]
      rw [show ints acc ++ [((x.toNat : Nat) : Int)] = ints (acc ++ [x]) by rw [ints_append]; rfl, read_loop K s hs cs (k + 1 + 1) (i + 1) (acc ++ [x]) h2 (by rw [List.length_append]; simp; omega) (by omega) (by omega), List.append_assoc]
      rfl
    · rw [hx] at hd
      obtain ⟨hi1, h1, h2⟩ := at_drop (show (B s).drop i = 37 :: a :: b :: cs.flatMap specR from hd)
      obtain ⟨hi2, h3, h4⟩ := at_drop h2
      obtain ⟨hi3, h5, h6⟩ := at_drop h4
      rw [B_size] at hi1 hi2 hi3
      have b1 : bt s ((i : Int) + 1) = ((a.toNat : Nat) : Int) := by
        rw [show (i : Int) + 1 = ((i + 1 : Nat) : Int) by omega, bt_at s (i + 1) hi2, h3]
      have b2 : bt s ((i : Int) + 2) = ((b.toNat : Nat) : Int) := by
        rw [show (i : Int) + 2 = ((i + 1 + 1 : Nat) : Int) by omega, bt_at s (i + 1 + 1) hi3, h5]
      have hv' : (IntKind.u8.wrap (BitVec.toNat (BitVec.ofInt (IntKind.u8).bits (IntKind.u8.wrap (digD (a.toNat : Int) * 2 ^ min (Int.toNat 4) (IntKind.u8).bits)) ||| BitVec.ofInt (IntKind.u8).bits (digD (b.toNat : Int))))) = ((c.toNat : Nat) : Int) := hv
      rw [zzQueryUnescape_l0_eq, br_lt (by omega), zzQueryUnescape_j0_eq, wrap_id (x := (i : Int) + 2) (by omega) (by omega), wrap_id (x := (i : Int) + 1) (by omega) (by omega), chk_le (by omega), chk_lt (by omega), bt_at s i hi1, h1, e37, br_dec, if_pos rfl, br_gt (by omega), chk_le (by omega), chk_lt (by omega), b1, digit_ok, Option.bind_some, br_ge da, chk_le (by omega), chk_lt (by omega), b2, digit_ok, Option.bind_some]
      rw [ltI_eq, decide_eq_false (by omega), zzQueryUnescape_j1_eq, br_false, zzQueryUnescape_j3_eq, wrap_id (x := (i : Int) + 2) (by omega) (by omega), wrap_id (x := (i : Int) + 1) (by omega) (by omega), chk_le (by omega), chk_lt (by omega), b1, digit_ok, Option.bind_some, chk_le (by omega), chk_le (by omega), chk_lt (by omega), b2, digit_ok, Option.bind_some, hv', chk_lt (by rw [hl]; show (acc.length : Int) + 1 < _; omega), wrap_id (x := (i : Int) + 2 + 1) (by omega) (by omega), show (i : Int) + 2 + 1 = ((i + 1 + 1 + 1 : Nat) : Int) by omega]
      rw [show ints acc ++ [((c.toNat : Nat) : Int)] = ints (acc ++ [c]) by rw [ints_append]; rfl, read_loop K s hs cs k (i + 1 + 1 + 1) (acc ++ [c]) h6 (by rw [List.length_append]; simp; omega) (by omega) (by omega), List.append_assoc]
      rfl
theorem read_ok (K : Nat) (cs : List UInt8) (hs : (cs.flatMap specR).length ≤ 100000) (hK : 4 * cs.length + 10 ≤ K) : zzQueryUnescape K ⟨(cs.flatMap specR).toArray⟩ = some (⟨cs.toArray⟩, ()) := by
  obtain ⟨K, rfl⟩ : ∃ m, K = m + 4 + 1 := ⟨K - 5, by omega⟩
  rw [zzQueryUnescape_eq]
  have := read_loop K ⟨(cs.flatMap specR).toArray⟩ (by rw [mk_size]; exact hs) cs (K + 4) 0 [] rfl (by simp) (by omega) (by omega)
  simpa [ints] using this
theorem parse_fin : ∀ n : Fin 1000, (match Go.Lib.parseIntB 64 (itoa2 n.val) with | .ok v => decide (v = (n.val : Int)) | _ => false) = true := by decide +kernel
theorem parse_ok (n : Nat) (hn : n < 1000) : parseIntE ⟨(itoa2 n).toArray⟩ 10 0 = some ((n : Int), ()) := by
  have h := parse_fin ⟨n, hn⟩
  have hl := (itoa2_digit n hn).2.2
  unfold parseIntE
  rw [if_pos ⟨by rw [mk_size]; omega, rfl, rfl⟩]
  have e : (⟨(itoa2 n).toArray⟩ : ByteArray).data.toList = itoa2 n := rfl
  rw [e]
  simp only [] at h
  split at h
  · rename_i v hv
    rw [hv, of_decide_eq_true h]
  · cases h
end Go.Proofs.YtfefjbifdbfmjaaDoor.E
