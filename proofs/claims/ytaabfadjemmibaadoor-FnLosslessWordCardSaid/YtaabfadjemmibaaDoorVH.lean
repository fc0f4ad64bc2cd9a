import Derived.Test.YtaabfadjemmibaaDoorVG
/- Floats of whole numbers; the overlap of two texts; how many characters. -/
set_option linter.unusedVariables false
set_option linter.unusedSimpArgs false
namespace Go.Proofs.YtaabfadjemmibaaDoor.E
open Go.Ev Ieee
theorem log2_bounds (n : Nat) (h0 : 0 < n) (h : n < 9007199254740992) : n.log2 ≤ 52 ∧ 2 ^ 52 ≤ n * 2 ^ (52 - n.log2) ∧ n * 2 ^ (52 - n.log2) < 2 ^ 53 := by
  have hne : n ≠ 0 := by omega
  have hl : n.log2 ≤ 52 := by
    have : n.log2 < 53 := (Nat.log2_lt hne).2 h
    omega
  have h1 : 2 ^ n.log2 ≤ n := Nat.log2_self_le hne
  have h2 : n < 2 ^ (n.log2 + 1) := Nat.lt_log2_self
  refine ⟨hl, ?_, ?_⟩
  · calc 2 ^ 52 = 2 ^ n.log2 * 2 ^ (52 - n.log2) := by rw [← Nat.pow_add]; congr 1; omega
      _ ≤ _ := Nat.mul_le_mul_right _ h1
  · calc n * 2 ^ (52 - n.log2) < 2 ^ (n.log2 + 1) * 2 ^ (52 - n.log2) := Nat.mul_lt_mul_of_pos_right h2 (Nat.two_pow_pos _)
      _ = 2 ^ 53 := by rw [← Nat.pow_add]; congr 1; omega
/-- What a whole number is, written as a float and read. -/
theorem read_i2f (n : Nat) (h0 : 0 < n) (h : n < 9007199254740992) : FloatKind.f64.decode (i2fI (n : Int)) = .number false (n * 2 ^ (52 - n.log2)) ((n.log2 : Int) - 52) := by
  obtain ⟨hl, hlo, hhi⟩ := log2_bounds n h0 h
  have hneg : decide ((n : Int) < 0) = false := decide_eq_false (by omega)
  have e1 : i2fI n = (n.log2 + 1022) * 2 ^ 52 + n * 2 ^ (52 - n.log2) := by
    have hm0 : n ≠ 0 := by omega
    have hlast : max ((0 : Int) + (n.log2 : Int) - (52 : Nat)) (-1074) = (n.log2 : Int) - 52 := by omega
    have c1 : (0 - ((n.log2 : Int) - 52)).toNat = 52 - n.log2 := by omega
    have c2 : (((n.log2 : Int) - 52) - 0).toNat = 0 := by omega
    have c3 : (((n.log2 : Int) - 52) - (-1074)).toNat = n.log2 + 1022 := by omega
    have hlp : Format.leastPlace double = -1074 := rfl
    simp only [i2fI, floatOfInt, FloatKind.nearest, FloatKind.encode, FloatKind.format, Format.write, Format.nearest, hneg, Int.natAbs_natCast, if_neg hm0, hlp, show Format.fractionBits double = 52 from rfl, hlast, c1, c2, c3]
    simp only [Toward.cut, Nat.zero_min, Nat.shiftLeft_eq, Nat.pow_zero, Nat.one_mul, Nat.div_one, Nat.mod_one]
    simp [Format.word, Format.binade, Format.infRung, double]
    omega
  rw [e1]
  generalize hq : n * 2 ^ (52 - n.log2) = q at *
  simp only [FloatKind.decode, FloatKind.format, Format.read, show Format.signWeight double = 9223372036854775808 from rfl, show Format.binade double = 4503599627370496 from rfl, show Format.infRung double = 9218868437227405312 from rfl, show Format.leastPlace double = -1074 from rfl]
  generalize n.log2 = L at *
  have d1 : ((L + 1022) * 2 ^ 52 + q) / 9223372036854775808 % 2 = 0 := by omega
  have d2 : ((L + 1022) * 2 ^ 52 + q) % 9223372036854775808 = (L + 1022) * 2 ^ 52 + q := by omega
  have d3 : ((L + 1022) * 2 ^ 52 + q) % 4503599627370496 = q - 4503599627370496 := by omega
  have d4 : ((L + 1022) * 2 ^ 52 + q) / 4503599627370496 = L + 1023 := by omega
  rw [d1, d2, d3, d4, if_neg (by omega), if_pos (by omega)]
  simp only [Nat.reduceBEq, Datum.number.injEq]
  refine ⟨by first | rfl | trivial, by omega, by omega⟩
theorem read_i2f0 : FloatKind.f64.decode (i2fI 0) = .number false 0 (-1074) := by decide +kernel
theorem i2f_toInt (n : Nat) (h : n < 9007199254740992) : (FloatKind.f64.decode (i2fI (n : Int))).toInt .zero = some (n : Int) := by
  rcases Nat.eq_zero_or_pos n with h0 | h0
  · subst h0
    decide +kernel
  · obtain ⟨hl, hlo, hhi⟩ := log2_bounds n h0 h
    rw [read_i2f n h0 h]
    simp only [Datum.toInt, Datum.integral]
    have c1 : ((n.log2 : Int) - 52).toNat = 0 := by omega
    have c2 : (-((n.log2 : Int) - 52)).toNat = 52 - n.log2 := by omega
    have c3 : 52 ≤ (n * 2 ^ (52 - n.log2)).log2 := (Nat.le_log2 (by omega)).2 hlo
    have c4 : min (52 - n.log2) ((n * 2 ^ (52 - n.log2)).log2 + 2) = 52 - n.log2 := by omega
    simp only [c1, c2, Toward.cut, Nat.shiftLeft_zero]
    rw [c4, Nat.shiftLeft_eq, Nat.one_mul, Nat.mul_div_cancel _ (Nat.two_pow_pos _)]
    simp [signed]
theorem compare_mul (a b c : Nat) (hc : 0 < c) : compare ((a * c : Nat) : Int) ((b * c : Nat) : Int) = compare (a : Int) (b : Int) := by
  simp only [compare, compareOfLessAndEq, Int.ofNat_lt, Int.natCast_inj]
  simp only [Nat.mul_lt_mul_right hc, Nat.mul_right_cancel_iff hc]
theorem order_i2f (n m : Nat) (hn : n < 9007199254740992) (hm : m < 9007199254740992) : (FloatKind.f64.decode (i2fI (n : Int))).order (FloatKind.f64.decode (i2fI (m : Int))) = some (compare (n : Int) (m : Int)) := by
  rcases Nat.eq_zero_or_pos n with h0 | h0 <;> rcases Nat.eq_zero_or_pos m with h1 | h1
  · subst h0 h1
    decide +kernel
  · subst h0
    obtain ⟨hl, hlo, hhi⟩ := log2_bounds m h1 hm
    rw [show ((0 : Nat) : Int) = 0 from rfl, read_i2f0, read_i2f m h1 hm]
    simp only [Datum.order, signed, Bool.false_eq_true, if_false]
    have c1 : min (-1074 : Int) ((m.log2 : Int) - 52) = -1074 := by omega
    rw [c1]
    have c2 : ((m.log2 : Int) - 52 - -1074).toNat = m.log2 + 1022 := by omega
    rw [c2, show ((-1074 : Int) - -1074).toNat = 0 from rfl, Nat.shiftLeft_eq, Nat.shiftLeft_eq, Nat.mul_assoc, Nat.pow_zero]
    have := compare_mul 0 m (2 ^ (52 - m.log2) * 2 ^ (m.log2 + 1022)) (Nat.mul_pos (Nat.two_pow_pos _) (Nat.two_pow_pos _))
    simpa using this
  · subst h1
    obtain ⟨hl, hlo, hhi⟩ := log2_bounds n h0 hn
    rw [show ((0 : Nat) : Int) = 0 from rfl, read_i2f0, read_i2f n h0 hn]
    simp only [Datum.order, signed, Bool.false_eq_true, if_false]
    have c1 : min ((n.log2 : Int) - 52) (-1074 : Int) = -1074 := by omega
    rw [c1]
    have c2 : ((n.log2 : Int) - 52 - -1074).toNat = n.log2 + 1022 := by omega
    rw [c2, show ((-1074 : Int) - -1074).toNat = 0 from rfl, Nat.shiftLeft_eq, Nat.shiftLeft_eq, Nat.mul_assoc, Nat.pow_zero]
    have := compare_mul n 0 (2 ^ (52 - n.log2) * 2 ^ (n.log2 + 1022)) (Nat.mul_pos (Nat.two_pow_pos _) (Nat.two_pow_pos _))
    simpa using this
  · obtain ⟨hl, hlo, hhi⟩ := log2_bounds m h1 hm
    obtain ⟨hl', hlo', hhi'⟩ := log2_bounds n h0 hn
    rw [read_i2f n h0 hn, read_i2f m h1 hm]
    simp only [Datum.order, signed, Bool.false_eq_true, if_false]
    generalize hb : min ((n.log2 : Int) - 52) ((m.log2 : Int) - 52) = base
    have e1 : n * 2 ^ (52 - n.log2) * 2 ^ ((n.log2 : Int) - 52 - base).toNat = n * 2 ^ (-base).toNat := by
      rw [Nat.mul_assoc, ← Nat.pow_add]; congr 2; omega
    have e2 : m * 2 ^ (52 - m.log2) * 2 ^ ((m.log2 : Int) - 52 - base).toNat = m * 2 ^ (-base).toNat := by
      rw [Nat.mul_assoc, ← Nat.pow_add]; congr 2; omega
    rw [Nat.shiftLeft_eq, Nat.shiftLeft_eq, e1, e2, compare_mul _ _ _ (Nat.two_pow_pos _)]
theorem i2f_num (n : Nat) (h : n < 9007199254740992) : ∃ m i, FloatKind.f64.decode (i2fI (n : Int)) = .number false m i ∧ (m = 0 ↔ n = 0) := by
  rcases Nat.eq_zero_or_pos n with h0 | h0
  · subst h0
    exact ⟨0, -1074, read_i2f0, by simp⟩
  · obtain ⟨hl, hlo, hhi⟩ := log2_bounds n h0 h
    refine ⟨_, _, read_i2f n h0 h, ⟨fun hz => ?_, fun hz => by omega⟩⟩
    omega
theorem f2i_ok (n : Nat) (h : n < 9007199254740992) : f2iOkI .i64 (i2fI (n : Int)) = true ∧ f2iI .i64 (i2fI (n : Int)) = (n : Int) := by
  have e : floatToIntVal .f64 (i2fI (n : Int)) .i64 = some (n : Int) := by
    unfold floatToIntVal
    rw [i2f_toInt n h]
    simp only []
    rw [if_pos]
    constructor
    · show (-9223372036854775808 : Int) ≤ n
      omega
    · show (n : Int) ≤ 9223372036854775807
      omega
  constructor
  · unfold f2iOkI
    rw [e]
    simp
  · unfold f2iI
    rw [e]
    rfl
theorem fpick_min (n m : Nat) (hn : n < 9007199254740992) (hm : m < 9007199254740992) : fpick true .lt (i2fI (n : Int)) (i2fI (m : Int)) = i2fI ((min n m : Nat) : Int) := by
  obtain ⟨a, i, ha, ha0⟩ := i2f_num n hn
  obtain ⟨b, j, hb, hb0⟩ := i2f_num m hm
  have ho := order_i2f n m hn hm
  unfold fpick
  rw [ho, ha, hb]
  have e1 : (Datum.number false a i == Datum.infinity true) = false := by cases h : (Datum.number false a i == Datum.infinity true) <;> simp_all
  have e2 : (Datum.number false b j == Datum.infinity true) = false := by cases h : (Datum.number false b j == Datum.infinity true) <;> simp_all
  simp only [e1, e2, Datum.isNaN, Bool.or_self, Bool.false_eq_true, if_false, Datum.neg]
  by_cases hz : (Datum.isZero (.number false a i) && Datum.isZero (.number false b j)) = true
  · rw [if_pos hz]
    rw [Bool.and_eq_true] at hz
    have hb1 : b = 0 := by cases b with
      | zero => rfl
      | succ b => simp [Datum.isZero] at hz
    have ha1 : a = 0 := by cases a with
      | zero => rfl
      | succ a => simp [Datum.isZero] at hz
    obtain rfl := ha0.1 ha1
    obtain rfl := hb0.1 hb1
    simp
  · rw [if_neg hz]
    by_cases hlt : n < m
    · have : compare (n : Int) (m : Int) = .lt := by simp only [compare, compareOfLessAndEq]; rw [if_pos (by omega)]
      rw [this, Nat.min_eq_left (by omega)]
      exact if_pos rfl
    · have : (some (compare (n : Int) (m : Int)) == some Ordering.lt) = false := by
        simp only [compare, compareOfLessAndEq]; rw [if_neg (by omega)]; split <;> rfl
      rw [this, Nat.min_eq_right (by omega)]
      exact if_neg (by decide)
theorem fpick_max (n m : Nat) (hn : n < 9007199254740992) (hm : m < 9007199254740992) : fpick false .gt (i2fI (n : Int)) (i2fI (m : Int)) = i2fI ((max n m : Nat) : Int) := by
  obtain ⟨a, i, ha, ha0⟩ := i2f_num n hn
  obtain ⟨b, j, hb, hb0⟩ := i2f_num m hm
  have ho := order_i2f n m hn hm
  unfold fpick
  rw [ho, ha, hb]
  have e1 : (Datum.number false a i == Datum.infinity false) = false := by cases h : (Datum.number false a i == Datum.infinity false) <;> simp_all
  have e2 : (Datum.number false b j == Datum.infinity false) = false := by cases h : (Datum.number false b j == Datum.infinity false) <;> simp_all
  simp only [e1, e2, Datum.isNaN, Bool.or_self, Bool.false_eq_true, if_false, Datum.neg]
  by_cases hz : (Datum.isZero (.number false a i) && Datum.isZero (.number false b j)) = true
  · rw [if_pos hz]
    rw [Bool.and_eq_true] at hz
    have hb1 : b = 0 := by cases b with
      | zero => rfl
      | succ b => simp [Datum.isZero] at hz
    have ha1 : a = 0 := by cases a with
      | zero => rfl
      | succ a => simp [Datum.isZero] at hz
    obtain rfl := ha0.1 ha1
    obtain rfl := hb0.1 hb1
    simp
  · rw [if_neg hz]
    by_cases hlt : m < n
    · have : compare (n : Int) (m : Int) = .gt := by simp only [compare, compareOfLessAndEq]; rw [if_neg (by omega), if_neg (by omega)]
      rw [this, Nat.max_eq_left (by omega)]
      exact if_pos rfl
    · have : (some (compare (n : Int) (m : Int)) == some Ordering.gt) = false := by
        simp only [compare, compareOfLessAndEq]
        by_cases h2 : (n : Int) < m
        · rw [if_pos h2]; rfl
        · rw [if_neg h2, if_pos (by omega)]; rfl
      rw [this, Nat.max_eq_right (by omega)]
      exact if_neg (by decide)
/-- A whole number over 2. -/
theorem half_ok (n : Nat) (hn : n < 9007199254740992) : faOkI .quo (i2fI (n : Int)) 4611686018427387904 = true := by
  obtain ⟨a, i, ha, _⟩ := i2f_num n hn
  have h2 : FloatKind.f64.decode 4611686018427387904 = .number false 4503599627370496 (-51) := by decide +kernel
  have : (floatBits .quo .f64 (i2fI (n : Int)) 4611686018427387904).isSome = true := by
    unfold floatBits
    show (Option.map _ ((FloatKind.f64.decode (i2fI (n : Int))).quotient _ (FloatKind.f64.decode 4611686018427387904))).isSome = true
    rw [ha, h2]
    simp [Datum.quotient]
  unfold faOkI
  simp [this]
theorem max_ok (K n m : Nat) (hn : n < 9007199254740992) (hm : m < 9007199254740992) (hK : 1 ≤ K) : Max K (i2fI (n : Int)) (i2fI (m : Int)) = some (i2fI ((max n m : Nat) : Int)) := by
  obtain ⟨K, rfl⟩ : ∃ m, K = m + 1 := ⟨K - 1, by omega⟩
  rw [← fpick_max n m hn hm]
  rfl
theorem min_ok (K n m : Nat) (hn : n < 9007199254740992) (hm : m < 9007199254740992) (hK : 1 ≤ K) : Min K (i2fI (n : Int)) (i2fI (m : Int)) = some (i2fI ((min n m : Nat) : Int)) := by
  obtain ⟨K, rfl⟩ : ∃ m, K = m + 1 := ⟨K - 1, by omega⟩
  rw [← fpick_min n m hn hm]
  rfl
theorem count_ok (K : Nat) {x : List Int} (hx : Okl x) (hl : x.length ≤ 1000000) (hK : 1 ≤ K) : RuneCountInString K (strOfRunes x) = some (x.length : Int) := by
  obtain ⟨K, rfl⟩ : ∃ m, K = m + 1 := ⟨K - 1, by omega⟩
  have e : RuneCountInString (K + 1) (strOfRunes x) = runeCountE (strOfRunes x) := rfl
  have hs := size_le hx
  rw [e]
  unfold runeCountE
  rw [if_pos (by omega), runeCount_eq, runesI_of hx]
end Go.Proofs.YtaabfadjemmibaaDoor.E
