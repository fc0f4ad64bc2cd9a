import Derived.Test.YtfefjbifdbfmjaaDoorDK
/- Deltas: what the specification reads. -/
set_option linter.unusedVariables false
set_option linter.unusedSimpArgs false
namespace Go.Proofs.YtfefjbifdbfmjaaDoor.E
open Go.Ev
/-! ### tokens -/
def splitC (c : UInt8) : List UInt8 → List (List UInt8)
  | [] => [[]]
  | x :: l => if x = c then [] :: splitC c l else match splitC c l with
    | [] => [[x]]
    | t :: r => (x :: t) :: r
theorem splitC_ne (c : UInt8) : ∀ l, splitC c l ≠ []
  | [] => by simp [splitC]
  | x :: l => by
    unfold splitC
    split
    · simp
    · split <;> simp
theorem splitC_cons (c x : UInt8) (l : List UInt8) (h : x ≠ c) : ∃ t r, splitC c l = t :: r ∧ splitC c (x :: l) = (x :: t) :: r := by
  cases e : splitC c l with
  | nil => exact absurd e (splitC_ne c l)
  | cons t r =>
    refine ⟨t, r, rfl, ?_⟩
    show (if x = c then _ else _) = _
    rw [if_neg h, e]
theorem splitC_join (c : UInt8) : ∀ l, joinB c (splitC c l) = l
  | [] => rfl
  | x :: l => by
    have ih := splitC_join c l
    by_cases h : x = c
    · subst h
      show joinB x (if x = x then _ else _) = _
      rw [if_pos rfl]
      cases e : splitC x l with
      | nil => exact absurd e (splitC_ne x l)
      | cons t r =>
        rw [e] at ih
        show [] ++ x :: joinB x (t :: r) = _
        rw [ih]
        rfl
    · obtain ⟨t, r, e1, e2⟩ := splitC_cons c x l h
      rw [e2]
      rw [e1] at ih
      cases r with
      | nil =>
        show x :: t = _
        rw [show t = l from ih]
      | cons u r =>
        show (x :: t) ++ c :: joinB c (u :: r) = _
        have ih' : t ++ c :: joinB c (u :: r) = l := ih
        rw [List.cons_append, ih']
theorem splitC_not (c : UInt8) : ∀ l, ∀ t ∈ splitC c l, c ∉ t
  | [], t, h => by
    have : t = [] := by simpa [splitC] using h
    rw [this]
    simp
  | x :: l, t, h => by
    have ih := splitC_not c l
    by_cases hx : x = c
    · have : splitC c (x :: l) = [] :: splitC c l := by
        show (if x = c then _ else _) = _
        rw [if_pos hx]
      rw [this] at h
      rcases List.mem_cons.1 h with rfl | h
      · simp
      · exact ih t h
    · obtain ⟨u, r, e1, e2⟩ := splitC_cons c x l hx
      rw [e2] at h
      rcases List.mem_cons.1 h with rfl | h
      · intro hc
        rcases List.mem_cons.1 hc with h' | h'
        · exact hx h'.symm
        · exact ih u (by rw [e1]; exact List.mem_cons_self ..) h'
      · exact ih t (by rw [e1]; exact List.mem_cons_of_mem _ h)
theorem splitC_pre (c : UInt8) : ∀ (p l : List UInt8), c ∉ p → splitC c (p ++ c :: l) = p :: splitC c l
  | [], l, _ => by
    show (if c = c then _ else _) = _
    rw [if_pos rfl]
  | x :: p, l, h => by
    have hx : x ≠ c := fun e => h (by rw [e]; exact List.mem_cons_self ..)
    have ih := splitC_pre c p l (fun e => h (List.mem_cons_of_mem _ e))
    obtain ⟨t, r, e1, e2⟩ := splitC_cons c x (p ++ c :: l) hx
    rw [ih] at e1
    cases e1
    exact e2
theorem splitC_one (c : UInt8) : ∀ p : List UInt8, c ∉ p → splitC c p = [p]
  | [], _ => rfl
  | x :: p, h => by
    have hx : x ≠ c := fun e => h (by rw [e]; exact List.mem_cons_self ..)
    have ih := splitC_one c p (fun e => h (List.mem_cons_of_mem _ e))
    obtain ⟨t, r, e1, e2⟩ := splitC_cons c x p hx
    rw [ih] at e1
    cases e1
    exact e2
def full (ts : List (List UInt8)) : List (List UInt8) := ts.filter fun t => !t.isEmpty
theorem full_cons (t : List UInt8) (ts : List (List UInt8)) (h : t ≠ []) : full (t :: ts) = t :: full ts := by
  unfold full
  rw [List.filter_cons_of_pos]
  cases t
  · exact absurd rfl h
  · rfl
theorem full_nil (ts : List (List UInt8)) : full ([] :: ts) = full ts := by
  unfold full
  rw [List.filter_cons_of_neg]
  simp
def mks (ts : List (List UInt8)) : List ByteArray := ts.map fun t => ⟨t.toArray⟩
theorem tok_loop (K : Nat) (s : ByteArray) (hs : s.size ≤ 100000) : ∀ (d f i k : Nat) (acc : List ByteArray) (p : List UInt8), i + d = s.size → f + p.length = i → (B s).drop f = p ++ (B s).drop i → (9 : UInt8) ∉ p → acc.length ≤ i → 3 * d + 5 ≤ k →
    deltaTokens_l0 K k s acc (f : Int) (i : Int) = some (acc ++ mks (full (splitC 9 ((B s).drop f))))
  | 0, f, i, k, acc, p, h, hf, hd, hn, ha, hk => by
    obtain ⟨k, rfl⟩ : ∃ m, k = m + 1 := ⟨k - 1, by omega⟩
    obtain ⟨k, rfl⟩ : ∃ m, k = m + 1 := ⟨k - 1, by omega⟩
    obtain ⟨k, rfl⟩ : ∃ m, k = m + 1 := ⟨k - 1, by omega⟩
    obtain ⟨k, rfl⟩ : ∃ m, k = m + 1 := ⟨k - 1, by omega⟩
    have hsz := B_size s
    have hi : (B s).drop i = [] := List.drop_eq_nil_of_le (by omega)
    rw [hi, List.append_nil] at hd
    rw [hd, splitC_one 9 p hn, deltaTokens_l0_eq, br_le (by omega), deltaTokens_j0_eq, br_eq (by omega), deltaTokens_j1_eq, br_true]
    by_cases hp : p = []
    · subst hp
      have : f = i := by simpa using hf
      rw [br_ge (by omega), full_nil, deltaTokens_l0_eq, wrap_id (by omega) (by omega), br_gt (by omega)]
      show _ = some (acc ++ [])
      rw [List.append_nil]
    · have hl := List.length_pos_iff.2 hp
      have e1 : ByteArray.extract s (Int.toNat (f : Int)) (Int.toNat (i : Int)) = ⟨p.toArray⟩ := B_inj (by
        rw [B_extract, Int.toNat_natCast, Int.toNat_natCast, hd, B_mk, List.take_of_length_le (by omega)])
      rw [br_lt (by omega), full_cons p [] hp, e1, chk_le (by omega), chk_le (by omega), chk_le (by omega)]
      simp only [List.length_cons, List.length_nil]
      rw [chk_lt (by omega), deltaTokens_l0_eq, wrap_id (by omega) (by omega), br_gt (by omega)]
      rfl
  | d + 1, f, i, k, acc, p, h, hf, hd, hn, ha, hk => by
    obtain ⟨k, rfl⟩ : ∃ m, k = m + 1 := ⟨k - 1, by omega⟩
    obtain ⟨k, rfl⟩ : ∃ m, k = m + 1 := ⟨k - 1, by omega⟩
    obtain ⟨k, rfl⟩ : ∃ m, k = m + 1 := ⟨k - 1, by omega⟩
    have hsz := B_size s
    have hi : i < (B s).length := by omega
    have hc : (B s).drop i = (B s)[i] :: (B s).drop (i + 1) := List.drop_eq_getElem_cons hi
    have e9 : eqI (((B s)[i]).toNat : Int) 9 = decide ((B s)[i] = 9) := u8e _ 9 (by omega)
    rw [deltaTokens_l0_eq, br_le (by omega), deltaTokens_j0_eq, br_ne (by omega), chk_le (by omega), chk_lt (by omega), bt_at s i (by omega), deltaTokens_j1_eq, e9, br_dec, wrap_id (by omega) (by omega), show (i : Int) + 1 = ((i + 1 : Nat) : Int) by omega]
    by_cases c : (B s)[i] = 9
    · rw [if_pos c, hd, hc, c, splitC_pre 9 p _ hn]
      by_cases hp : p = []
      · subst hp
        have : f = i := by simpa using hf
        rw [br_ge (by omega), full_nil]
        exact tok_loop K s hs d (i + 1) (i + 1) k acc [] (by omega) (by simp) (by simp) (by simp) (by omega) (by omega)
      · have hl := List.length_pos_iff.2 hp
        have e1 : ByteArray.extract s (Int.toNat (f : Int)) (Int.toNat (i : Int)) = ⟨p.toArray⟩ := B_inj (by
          rw [B_extract, Int.toNat_natCast, Int.toNat_natCast, hd]
          exact List.take_left' (by omega))
        rw [br_lt (by omega), full_cons p _ hp, e1, chk_le (by omega), chk_le (by omega), chk_le (by omega)]
        simp only [List.length_cons, List.length_nil]
        rw [chk_lt (by omega), tok_loop K s hs d (i + 1) (i + 1) k _ [] (by omega) (by simp) (by simp) (by simp) (by rw [List.length_append]; simp; omega) (by omega), List.append_assoc]
        rfl
    · rw [if_neg c]
      exact tok_loop K s hs d f (i + 1) k acc (p ++ [(B s)[i]]) (by omega) (by rw [List.length_append]; simp; omega) (by rw [hd, hc, List.append_assoc]; rfl) (fun hx => by
        rcases List.mem_append.1 hx with hx | hx
        · exact hn hx
        · exact c (List.mem_singleton.1 hx).symm) (by omega) (by omega)
theorem tokens_ok (K : Nat) (s : ByteArray) (hs : s.size ≤ 100000) (hK : 3 * s.size + 10 ≤ K) : deltaTokens K s = some (mks (full (splitC 9 (B s)))) := by
  obtain ⟨K, rfl⟩ : ∃ m, K = m + 1 := ⟨K - 1, by omega⟩
  rw [deltaTokens_eq]
  have := tok_loop K s hs s.size 0 0 K [] [] (by omega) rfl (by simp) (by simp) (by simp) (by omega)
  simpa using this
/-! ### escapes -/
def hexOk (a : UInt8) : Bool := decide (digD (a.toNat : Int) ≤ 15)
def hexV (a b : UInt8) : UInt8 := UInt8.ofNat (16 * (digD (a.toNat : Int)).toNat + (digD (b.toNat : Int)).toNat)
def decT : List UInt8 → Option (List UInt8)
  | [] => some []
  | c :: r => if c = 37 then (match r with
      | a :: b :: r' => if hexOk a && hexOk b then (decT r').map (hexV a b :: ·) else none
      | _ => none) else (decT r).map (c :: ·)
theorem decT_ne (c : UInt8) (r : List UInt8) (h : c ≠ 37) : decT (c :: r) = (decT r).map (c :: ·) := by
  match r with
  | [] => simp [decT, h]
  | [a] => simp [decT, h]
  | a :: b :: r => simp [decT, h]
theorem decT_pct (a b : UInt8) (r : List UInt8) : decT (37 :: a :: b :: r) = if hexOk a && hexOk b then (decT r).map (hexV a b :: ·) else none := by
  simp [decT]
theorem hex_fin : ∀ n : Fin 256, (0 ≤ digD (n.val : Int) ∧ digD (n.val : Int) ≤ 16) := by decide +kernel
theorem dec_fin : ∀ x y : Fin 16, IntKind.u8.wrap (IntKind.i64.wrap ((IntKind.i64.wrap (16 * (x.val : Int))) + (y.val : Int))) = (((UInt8.ofNat (16 * x.val + y.val)).toNat : Nat) : Int) ∧ IntKind.u8.wrap (BitVec.toNat (BitVec.ofInt (IntKind.u8).bits (IntKind.u8.wrap ((x.val : Int) * 2 ^ min (Int.toNat 4) (IntKind.u8).bits)) ||| BitVec.ofInt (IntKind.u8).bits (y.val : Int))) = (((UInt8.ofNat (16 * x.val + y.val)).toNat : Nat) : Int) := by decide +kernel
theorem dig_nat (a : UInt8) (h : hexOk a = true) : ∃ x : Fin 16, digD (a.toNat : Int) = (x.val : Int) := by
  have h1 := of_decide_eq_true h
  have h2 : 0 ≤ digD (a.toNat : Int) := (hex_fin ⟨a.toNat, a.toNat_lt⟩).1
  exact ⟨⟨(digD (a.toNat : Int)).toNat, by omega⟩, by simp only []; omega⟩
theorem hexV_eq (a b : UInt8) (ha : hexOk a = true) (hb : hexOk b = true) : decV a b = ((hexV a b).toNat : Int) ∧ IntKind.u8.wrap (IntKind.i64.wrap ((IntKind.i64.wrap (16 * digD (a.toNat : Int))) + digD (b.toNat : Int))) = ((hexV a b).toNat : Int) := by
  obtain ⟨x, hx⟩ := dig_nat a ha
  obtain ⟨y, hy⟩ := dig_nat b hb
  unfold decV hexV
  rw [hx, hy]
  have := dec_fin x y
  simp only [Int.toNat_natCast]
  exact ⟨this.2, this.1⟩
def hexI (n : Int) : Int := if 48 ≤ n ∧ n ≤ 57 then IntKind.i64.wrap (IntKind.u8.wrap (n - 48)) else if 97 ≤ n ∧ n ≤ 102 then IntKind.i64.wrap ((IntKind.i64.wrap (IntKind.u8.wrap (n - 97))) + 10) else if 65 ≤ n ∧ n ≤ 70 then IntKind.i64.wrap ((IntKind.i64.wrap (IntKind.u8.wrap (n - 65))) + 10) else -1
theorem hex_ok (K : Nat) (n : Int) : deltaHex (K + 4) n = some (hexI n) := by
  have e1 : ∀ (f : Bool → Option Int) (a b : Prop) [Decidable a] [Decidable b], (if a then f (decide b) else f false) = if a ∧ b then f true else f false := by
    intro f a b _ _
    by_cases h1 : a <;> by_cases h2 : b <;> simp [h1, h2]
  rw [show K + 4 = K + 3 + 1 from rfl, deltaHex_eq]
  simp only [leI_eq, br_dec]
  rw [e1 (deltaHex_j0 (K + 3) (K + 3) n), show K + 3 = K + 2 + 1 from rfl, deltaHex_j0_eq, deltaHex_j0_eq, br_true, br_false]
  simp only [leI_eq, br_dec]
  rw [e1 (deltaHex_j1 (K + 2 + 1) (K + 2) n), show K + 2 = K + 1 + 1 from rfl, deltaHex_j1_eq, deltaHex_j1_eq, br_true, br_false]
  simp only [leI_eq, br_dec]
  rw [e1 (deltaHex_j2 (K + 1 + 1 + 1) (K + 1) n), deltaHex_j2_eq, deltaHex_j2_eq, br_true, br_false]
  unfold hexI
  split
  · rfl
  · split
    · rfl
    · split <;> rfl
theorem hexI_fin : ∀ n : Fin 256, (digD (n.val : Int) ≤ 15 → hexI (n.val : Int) = digD (n.val : Int)) ∧ (¬ digD (n.val : Int) ≤ 15 → hexI (n.val : Int) = -1) := by decide +kernel
theorem hexI_y (a : UInt8) (h : hexOk a = true) : hexI (a.toNat : Int) = digD (a.toNat : Int) ∧ 0 ≤ digD (a.toNat : Int) := ⟨(hexI_fin ⟨a.toNat, a.toNat_lt⟩).1 (of_decide_eq_true h), (hex_fin ⟨a.toNat, a.toNat_lt⟩).1⟩
theorem hexI_n (a : UInt8) (h : ¬ hexOk a = true) : hexI (a.toNat : Int) = -1 := (hexI_fin ⟨a.toNat, a.toNat_lt⟩).2 (fun c => h (decide_eq_true c))
theorem text_loop (K : Nat) (s : ByteArray) (hs : s.size ≤ 100000) : ∀ (n k i : Nat) (acc : List UInt8), s.size ≤ i + n → i ≤ s.size → acc.length ≤ i → 5 * n + 1 ≤ k →
    ∃ r, deltaText_l0 (K + 4) k s (ints acc) (i : Int) = some r ∧ (r.2 = true → ∃ cs, decT ((B s).drop i) = some cs ∧ r.1 = ⟨(acc ++ cs).toArray⟩)
  | 0, k, i, acc, h, hi, ha, hk => by
    obtain ⟨k, rfl⟩ : ∃ m, k = m + 1 := ⟨k - 1, by omega⟩
    refine ⟨(⟨acc.toArray⟩, true), ?_, fun _ => ⟨[], ?_, by rw [List.append_nil]⟩⟩
    · rw [deltaText_l0_eq, br_ge (by omega), strOf_ints]
    · rw [List.drop_eq_nil_of_le (by rw [B_size]; omega)]
      rfl
  | n + 1, k, i, acc, h, hi, ha, hk => by
    by_cases hlt : i < s.size
    case neg =>
      obtain ⟨k, rfl⟩ : ∃ m, k = m + 1 := ⟨k - 1, by omega⟩
      refine ⟨(⟨acc.toArray⟩, true), ?_, fun _ => ⟨[], ?_, by rw [List.append_nil]⟩⟩
      · rw [deltaText_l0_eq, br_ge (by omega), strOf_ints]
      · rw [List.drop_eq_nil_of_le (by rw [B_size]; omega)]
        rfl
    have hsz := B_size s
    have hl := ints_len acc
    have hi' : i < (B s).length := by omega
    have hc : (B s).drop i = (B s)[i] :: (B s).drop (i + 1) := List.drop_eq_getElem_cons hi'
    obtain ⟨k, rfl⟩ : ∃ m, k = m + 1 + 1 + 1 + 1 + 1 := ⟨k - 5, by omega⟩
    rw [hc, deltaText_l0_eq, br_lt (by omega), deltaText_j0_eq, chk_le (by omega), chk_lt (by omega), bt_at s i hlt, br_not, e37, br_dec]
    by_cases c : (B s)[i] = 37
    · rw [if_pos c]
      have bad : ∃ r : ByteArray × Bool, (some ((⟨#[]⟩ : ByteArray), false) : Option (ByteArray × Bool)) = some r ∧ (r.2 = true → ∃ cs, decT ((B s)[i] :: (B s).drop (i + 1)) = some cs ∧ r.1 = ⟨(acc ++ cs).toArray⟩) := ⟨_, rfl, fun h => by cases h⟩
      rw [deltaText_j1_eq, wrap_id (x := (i : Int) + 2) (by omega) (by omega), wrap_id (x := (i : Int) + 1) (by omega) (by omega)]
      by_cases h2 : i + 2 < s.size
      case neg =>
        rw [br_le (by omega), deltaText_j2_eq, br_true]
        exact bad
      have hb1 : i + 1 < (B s).length := by omega
      have hb2 : i + 1 + 1 < (B s).length := by omega
      have hc1 : (B s).drop (i + 1) = (B s)[i + 1] :: (B s)[i + 1 + 1] :: (B s).drop (i + 1 + 1 + 1) := by
        rw [List.drop_eq_getElem_cons hb1, List.drop_eq_getElem_cons hb2]
      have b1 : bt s ((i : Int) + 1) = ((((B s)[i + 1]).toNat : Nat) : Int) := by
        rw [show (i : Int) + 1 = ((i + 1 : Nat) : Int) by omega, bt_at s (i + 1) (by omega)]
      have b2 : bt s ((i : Int) + 2) = ((((B s)[i + 1 + 1]).toNat : Nat) : Int) := by
        rw [show (i : Int) + 2 = ((i + 1 + 1 : Nat) : Int) by omega, bt_at s (i + 1 + 1) (by omega)]
      rw [br_gt (by omega), chk_le (by omega), chk_lt (by omega), b1, hex_ok, Option.bind_some]
      by_cases d1 : hexOk ((B s)[i + 1]) = true
      case neg =>
        rw [hexI_n _ d1, br_lt (by omega), deltaText_j2_eq, br_true]
        exact bad
      rw [(hexI_y _ d1).1, br_ge (hexI_y _ d1).2, chk_le (by omega), chk_lt (by omega), b2, hex_ok, Option.bind_some]
      by_cases d2 : hexOk ((B s)[i + 1 + 1]) = true
      case neg =>
        rw [hexI_n _ d2, deltaText_j2_eq, br_lt (by omega)]
        exact bad
      rw [(hexI_y _ d2).1, deltaText_j2_eq, br_ge (hexI_y _ d2).2, deltaText_j3_eq, wrap_id (x := (i : Int) + 2) (by omega) (by omega), wrap_id (x := (i : Int) + 1) (by omega) (by omega), chk_le (by omega), chk_lt (by omega), b1, hex_ok, Option.bind_some, (hexI_y _ d1).1, chk_le (by omega), chk_lt (by omega), b2, hex_ok, Option.bind_some, (hexI_y _ d2).1, (hexV_eq _ _ d1 d2).2, wrap_id (x := (i : Int) + 2 + 1) (by omega) (by omega), show (i : Int) + 2 + 1 = ((i + 1 + 1 + 1 : Nat) : Int) by omega]
      have hcond : ((List.length (ints acc) : Int) + (List.length ([(((hexV ((B s)[i + 1]) ((B s)[i + 1 + 1])).toNat : Nat) : Int)] : List Int) : Int)) < 1000000000000 := by
        rw [hl]
        simp only [List.length_cons, List.length_nil]
        omega
      rw [chk_lt hcond]
      rw [show ints acc ++ [(((hexV ((B s)[i + 1]) ((B s)[i + 1 + 1])).toNat : Nat) : Int)] = ints (acc ++ [hexV ((B s)[i + 1]) ((B s)[i + 1 + 1])]) by rw [ints_append]; rfl]
      obtain ⟨r, hr, hR⟩ := text_loop K s hs n k (i + 1 + 1 + 1) (acc ++ [hexV ((B s)[i + 1]) ((B s)[i + 1 + 1])]) (by omega) (by omega) (by rw [List.length_append]; simp; omega) (by omega)
      refine ⟨r, hr, fun h => ?_⟩
      obtain ⟨cs, h1, h2⟩ := hR h
      refine ⟨hexV ((B s)[i + 1]) ((B s)[i + 1 + 1]) :: cs, ?_, by rw [h2, List.append_assoc]; rfl⟩
      rw [hc1, c]
      rw [decT_pct, d1, d2, h1]
      rfl
    · rw [if_neg c, chk_le (by omega), chk_lt (by omega)]
      have hcond : ((List.length (ints acc) : Int) + (List.length ([((((B s)[i]).toNat : Nat) : Int)] : List Int) : Int)) < 1000000000000 := by
        rw [hl]
        simp only [List.length_cons, List.length_nil]
        omega
      rw [chk_lt hcond, wrap_id (by omega) (by omega), show (i : Int) + 1 = ((i + 1 : Nat) : Int) by omega]
      rw [show ints acc ++ [((((B s)[i]).toNat : Nat) : Int)] = ints (acc ++ [(B s)[i]]) by rw [ints_append]; rfl]
      obtain ⟨r, hr, hR⟩ := text_loop K s hs n (k + 1 + 1 + 1) (i + 1) (acc ++ [(B s)[i]]) (by omega) (by omega) (by rw [List.length_append]; simp; omega) (by omega)
      refine ⟨r, hr, fun h => ?_⟩
      obtain ⟨cs, h1, h2⟩ := hR h
      refine ⟨(B s)[i] :: cs, ?_, by rw [h2, List.append_assoc]; rfl⟩
      rw [decT_ne _ _ c, h1]
      rfl
theorem text_ok (K : Nat) (s : ByteArray) (hs : s.size ≤ 100000) (hK : 5 * s.size + 10 ≤ K) : ∃ r, deltaText K s = some r ∧ (r.2 = true → ∃ cs, decT (B s) = some cs ∧ r.1 = ⟨cs.toArray⟩) := by
  obtain ⟨K, rfl⟩ : ∃ m, K = m + 4 + 1 := ⟨K - 5, by omega⟩
  rw [deltaText_eq]
  have := text_loop K s hs s.size (K + 4) 0 [] (by omega) (by omega) (by simp) (by omega)
  simpa [ints] using this
theorem decT_len : ∀ (n : Nat) (l cs : List UInt8), l.length ≤ n → decT l = some cs → cs.length ≤ l.length
  | _, [], cs, _, h => by
    have : cs = [] := by simpa [decT] using h.symm
    rw [this]
    simp
  | 0, c :: r, cs, hn, h => by simp at hn
  | n + 1, c :: r, cs, hn, h => by
    simp only [List.length_cons] at hn
    by_cases hc : c = 37
    · subst hc
      match r, h with
      | [], h => simp [decT] at h
      | [a], h => simp [decT] at h
      | a :: b :: r', h =>
        rw [decT_pct] at h
        split at h
        · cases e : decT r' with
          | none => rw [e] at h; cases h
          | some x =>
            rw [e] at h
            cases h
            simp only [List.length_cons] at hn ⊢
            have := decT_len n r' x (by omega) e
            omega
        · cases h
    · rw [decT_ne _ _ hc] at h
      cases e : decT r with
      | none => rw [e] at h; cases h
      | some x =>
        rw [e] at h
        cases h
        have := decT_len n r x (by omega) e
        simp only [List.length_cons]
        omega
end Go.Proofs.YtfefjbifdbfmjaaDoor.E
