import Derived.Test.YtaabfadjemmibaaDoorVE
/- Texts of characters of one byte; the score of a border. -/
set_option linter.unusedVariables false
set_option linter.unusedSimpArgs false
namespace Go.Proofs.YtaabfadjemmibaaDoor.E
open Go.Ev
def Asc (x : List Int) : Prop := ∀ r ∈ x, 0 ≤ r ∧ r < 128
theorem Asc.okl {x : List Int} (h : Asc x) : Okl x := fun r hr => .inl ⟨(h r hr).1, by have := (h r hr).2; omega⟩
theorem Asc.nil : Asc [] := fun r h => by cases h
theorem Asc.app {a b : List Int} (ha : Asc a) (hb : Asc b) : Asc (a ++ b) := fun r hr => (List.mem_append.1 hr).elim (ha r) (hb r)
theorem Asc.left {a b : List Int} (h : Asc (a ++ b)) : Asc a := fun r hr => h r (List.mem_append.2 (.inl hr))
theorem Asc.right {a b : List Int} (h : Asc (a ++ b)) : Asc b := fun r hr => h r (List.mem_append.2 (.inr hr))
theorem Asc.take {a : List Int} (h : Asc a) (n : Nat) : Asc (a.take n) := fun r hr => h r (List.mem_of_mem_take hr)
theorem Asc.drop {a : List Int} (h : Asc a) (n : Nat) : Asc (a.drop n) := fun r hr => h r (List.mem_of_mem_drop hr)
theorem encs8_asc : ∀ (x : List Int), Asc x → encs8 x = x.map fun r => UInt8.ofNat r.toNat
  | [], _ => rfl
  | r :: x, h => by
    obtain ⟨h0, h1⟩ := h r (List.mem_cons_self ..)
    rw [encs8_cons, encs8_asc x (fun s hs => h s (List.mem_cons_of_mem _ hs)), List.map_cons]
    obtain ⟨c, rfl, hc⟩ := encL_cases r (.inl ⟨h0, by omega⟩)
    rcases hc with ⟨_, hc⟩ | ⟨hc, _⟩ | ⟨hc, _⟩ | ⟨hc, _⟩
    · rw [hc]; rfl
    · omega
    · omega
    · omega
theorem B_asc {x : List Int} (h : Asc x) : B (strOfRunes x) = x.map fun r => UInt8.ofNat r.toNat := by rw [B_str, encs8_asc x h]
theorem size_asc {x : List Int} (h : Asc x) : (strOfRunes x).size = x.length := by rw [← B_size, B_asc h, List.length_map]
theorem ext_asc {x : List Int} (h : Asc x) (i j : Nat) : ByteArray.extract (strOfRunes x) i j = strOfRunes ((x.drop i).take (j - i)) := by
  apply B_inj
  rw [B_extract, B_asc h, B_asc ((h.drop i).take _), List.map_take, List.map_drop]
theorem str_asc_inj {a b : List Int} (ha : Asc a) (hb : Asc b) : strOfRunes a = strOfRunes b ↔ a = b := ⟨strOfRunes_inj ha.okl hb.okl, fun h => by rw [h]⟩
theorem eqS_asc {a b : List Int} (ha : Asc a) (hb : Asc b) : eqS (strOfRunes a) (strOfRunes b) = decide (a = b) := by
  rw [eqS_iff, decide_eq_decide]
  exact str_asc_inj ha hb
theorem bt_asc {x : List Int} (h : Asc x) (i : Nat) (hi : i < x.length) : bt (strOfRunes x) (i : Int) = x[i] := by
  have hs : i < (strOfRunes x).size := by rw [size_asc h]; exact hi
  unfold bt
  rw [dif_pos (by rw [Int.toNat_natCast]; exact hs)]
  obtain ⟨h0, h1⟩ := h x[i] (List.getElem_mem hi)
  have e : (strOfRunes x)[((i : Int)).toNat]'(by rw [Int.toNat_natCast]; exact hs) = UInt8.ofNat (x[i]).toNat := by
    have hb := B_asc h
    have h2 : (B (strOfRunes x))[i]? = some (UInt8.ofNat (x[i]).toNat) := by rw [hb, List.getElem?_map, List.getElem?_eq_getElem hi]; rfl
    unfold B at h2
    rw [List.getElem?_eq_getElem (by rw [szL]; exact hs)] at h2
    exact Option.some.inj h2
  rw [e, tn _ (by omega)]
  exact Int.toNat_of_nonneg h0
theorem wrap32_id {x : Int} (h0 : 0 ≤ x) (h1 : x ≤ 2147483647) : IntKind.i32.wrap x = x := by
  rw [IntKind.wrap_i32]; omega
/-- The first character. -/
theorem dec_asc (K : Nat) {x : List Int} (h : Asc x) (hx : 0 < x.length) (hl : x.length ≤ 1000000) (hK : 2 ≤ K) : DecodeRuneInString K (strOfRunes x) = some (x[0], 1) := by
  obtain ⟨K, rfl⟩ : ∃ m, K = m + 2 := ⟨K - 2, by omega⟩
  have hs := size_asc h
  obtain ⟨h0, h1⟩ := h x[0] (List.getElem_mem hx)
  have e : eqS (strOfRunes x) ⟨#[]⟩ = false := str_ne h.okl (List.length_pos_iff.1 hx)
  have b := bt_asc h 0 hx
  rw [show ((0 : Nat) : Int) = 0 from rfl] at b
  rw [DecodeRuneInString_eq, e, Bool.not_false, br_true, hs, b, chk_le (by omega), chk_lt (by omega), show ltI x[0] 128 = true by rw [ltI_eq]; exact decide_eq_true h1, DecodeRuneInString_j0_eq, br_true, hs, b, chk_le (by omega), chk_lt (by omega), wrap32_id h0 (by omega)]
theorem decLast_asc (K : Nat) {x : List Int} (h : Asc x) (hx : 0 < x.length) (hl : x.length ≤ 1000000) (hK : 2 ≤ K) : DecodeLastRuneInString K (strOfRunes x) = some (x[x.length - 1]'(by omega), 1) := by
  obtain ⟨K, rfl⟩ : ∃ m, K = m + 2 := ⟨K - 2, by omega⟩
  have hs := size_asc h
  obtain ⟨h0, h1⟩ := h (x[x.length - 1]'(by omega)) (List.getElem_mem (by omega))
  have b := bt_asc h (x.length - 1) (by omega)
  have w : IntKind.i64.wrap ((x.length : Int) - 1) = ((x.length - 1 : Nat) : Int) := by rw [wrap_id (by omega) (by omega)]; omega
  rw [DecodeLastRuneInString_eq, hs, br_ne (by omega), DecodeLastRuneInString_j0_eq, hs, w, b, wrap32_id h0 (by omega), chk_le (by omega), chk_lt (by omega), br_lt (by omega)]
/-! ### scores -/
def notAl (r : Int) : Bool := !((decide (97 ≤ r) && decide (r ≤ 122)) || (decide (65 ≤ r) && decide (r ≤ 90)) || (decide (48 ≤ r) && decide (r ≤ 57)))
def white (r : Int) : Bool := decide (r = 9 ∨ r = 10 ∨ r = 12 ∨ r = 13 ∨ r = 32)
def brk (r : Int) : Bool := decide (r = 13 ∨ r = 10)
theorem notAl_ok (K : Nat) (r : Int) (hK : 1 ≤ K) : zzNotAlnum K r = some (notAl r) := by
  obtain ⟨K, rfl⟩ : ∃ m, K = m + 1 := ⟨K - 1, by omega⟩
  rw [zzNotAlnum_eq]
  unfold notAl
  simp only [leI_eq]
  by_cases a1 : 97 ≤ r <;> by_cases a2 : r ≤ 122 <;> by_cases a3 : 65 ≤ r <;> by_cases a4 : r ≤ 90 <;> by_cases a5 : 48 ≤ r <;> by_cases a6 : r ≤ 57 <;> simp [br, a1, a2, a3, a4, a5, a6] <;> omega
theorem white_ok (K : Nat) (r : Int) (hK : 1 ≤ K) : zzWhite K r = some (white r) := by
  obtain ⟨K, rfl⟩ : ∃ m, K = m + 1 := ⟨K - 1, by omega⟩
  rw [zzWhite_eq]
  unfold white
  simp only [eqI_eq]
  by_cases a1 : r = 9 <;> by_cases a2 : r = 10 <;> by_cases a3 : r = 12 <;> by_cases a4 : r = 13 <;> by_cases a5 : r = 32 <;> simp [br, a1, a2, a3, a4, a5]
theorem brk_ok (K : Nat) (r : Int) (hK : 1 ≤ K) : zzBreak K r = some (brk r) := by
  obtain ⟨K, rfl⟩ : ∃ m, K = m + 1 := ⟨K - 1, by omega⟩
  rw [zzBreak_eq]
  unfold brk
  simp only [eqI_eq]
  by_cases a1 : r = 13 <;> by_cases a2 : r = 10 <;> simp [br, a1, a2]
theorem blank_some (K : Nat) (s : ByteArray) (hs : s.size ≤ 1000000) (hK : 3 ≤ K) : ∃ b, zzBlankEnd K s = some b := by
  obtain ⟨K, rfl⟩ : ∃ m, K = m + 3 := ⟨K - 3, by omega⟩
  have j0 : ∀ c, (c = false → 2 ≤ s.size) → ∃ b, zzBlankEnd_j0 (K + 2) (K + 2) s (s.size : Int) c = some b := by
    intro c hc
    rw [zzBlankEnd_j0_eq]
    cases c with
    | true => exact ⟨_, rfl⟩
    | false =>
      have hc := hc rfl
      rw [br_false, zzBlankEnd_j1_eq]
      have w2 : IntKind.i64.wrap ((s.size : Int) - 2) = ((s.size - 2 : Nat) : Int) := by rw [wrap_id (by omega) (by omega)]; omega
      rw [w2, chk_le (by omega), chk_lt (by omega)]
      by_cases e1 : bt s ((s.size - 2 : Nat) : Int) = 10
      · rw [br_eq e1]; exact ⟨_, rfl⟩
      · rw [br_ne e1]
        by_cases h3 : 2 < s.size
        · have w3 : IntKind.i64.wrap ((s.size : Int) - 3) = ((s.size - 3 : Nat) : Int) := by rw [wrap_id (by omega) (by omega)]; omega
          rw [br_lt (by omega), w3, chk_le (by omega), chk_lt (by omega)]
          by_cases e2 : bt s ((s.size - 2 : Nat) : Int) = 13
          · rw [br_eq e2, chk_le (by omega), chk_lt (by omega)]; exact ⟨_, rfl⟩
          · rw [br_ne e2]; exact ⟨_, rfl⟩
        · rw [br_ge (by omega)]; exact ⟨_, rfl⟩
  rw [zzBlankEnd_eq]
  by_cases h2 : s.size < 2
  · rw [br_lt (by omega)]
    exact j0 true (fun h => by cases h)
  · have w1 : IntKind.i64.wrap ((s.size : Int) - 1) = ((s.size - 1 : Nat) : Int) := by rw [wrap_id (by omega) (by omega)]; omega
    rw [br_ge (by omega), w1, chk_le (by omega), chk_lt (by omega)]
    exact j0 _ (fun _ => by omega)
/-- A score is a number from 0 to 6. -/
def Sc (o : Option Int) : Prop := ∃ s : Nat, s ≤ 6 ∧ o = some (s : Int)
theorem Sc.br {c : Bool} {a b : Option Int} (ha : Sc a) (hb : Sc b) : Sc (br c a b) := by cases c; exact hb; exact ha
theorem Sc.n (s : Nat) (h : s ≤ 6) : Sc (some (s : Int)) := ⟨s, h, rfl⟩
theorem sc12 (K k : Nat) (b : Bool) : Sc (diffCleanupSemanticScore_j12 K (k + 1) b) := by rw [diffCleanupSemanticScore_j12_eq]; exact Sc.br (Sc.n 1 (by omega)) (Sc.n 0 (by omega))
theorem sc11 (K k : Nat) (a b c : Bool) : Sc (diffCleanupSemanticScore_j11 K (k + 2) a b c) := by rw [diffCleanupSemanticScore_j11_eq]; exact Sc.br (Sc.n 2 (by omega)) (Sc.br (sc12 ..) (sc12 ..))
theorem sc10 (K k : Nat) (a b c d e : Bool) : Sc (diffCleanupSemanticScore_j10 K (k + 3) a b c d e) := by rw [diffCleanupSemanticScore_j10_eq]; exact Sc.br (Sc.n 3 (by omega)) (Sc.br (sc11 ..) (sc11 ..))
theorem sc9 (K k : Nat) (a b c d e : Bool) : Sc (diffCleanupSemanticScore_j9 K (k + 4) a b c d e) := by rw [diffCleanupSemanticScore_j9_eq]; exact Sc.br (Sc.n 4 (by omega)) (Sc.br (Sc.br (sc10 ..) (sc10 ..)) (sc10 ..))
theorem sc8 (K k : Nat) (a b c d e f g : Bool) : Sc (diffCleanupSemanticScore_j8 K (k + 5) a b c d e f g) := by rw [diffCleanupSemanticScore_j8_eq]; exact Sc.br (Sc.n 5 (by omega)) (Sc.br (sc9 ..) (sc9 ..))
theorem sc7 (K k : Nat) (a b c d e f g h : Bool) : Sc (diffCleanupSemanticScore_j7 K (k + 6) a b c d e f g h) := by rw [diffCleanupSemanticScore_j7_eq]; exact Sc.br (sc8 ..) (sc8 ..)
theorem sc6 (K k : Nat) (y : ByteArray) (hy : y.size ≤ 1000000) (hK : 3 ≤ K) (a b c d e f g : Bool) : Sc (diffCleanupSemanticScore_j6 K (k + 7) y a b c d e f g) := by
  rw [diffCleanupSemanticScore_j6_eq]
  obtain ⟨q, hq⟩ := blank_some K y hy hK
  rw [hq]
  exact Sc.br (sc7 ..) (sc7 ..)
theorem sc5 (K k : Nat) (x y : ByteArray) (hx : x.size ≤ 1000000) (hy : y.size ≤ 1000000) (hK : 3 ≤ K) (a b c d e f : Bool) : Sc (diffCleanupSemanticScore_j5 K (k + 8) x y a b c d e f) := by
  rw [diffCleanupSemanticScore_j5_eq]
  obtain ⟨q, hq⟩ := blank_some K x hx hK
  rw [hq]
  exact Sc.br (sc6 _ _ _ hy hK ..) (sc6 _ _ _ hy hK ..)
theorem sc4 (K k : Nat) (x y : ByteArray) (hx : x.size ≤ 1000000) (hy : y.size ≤ 1000000) (hK : 3 ≤ K) (r : Int) (a b c d e : Bool) : Sc (diffCleanupSemanticScore_j4 K (k + 9) x y r a b c d e) := by
  rw [diffCleanupSemanticScore_j4_eq, brk_ok K r (by omega)]
  exact Sc.br (sc5 _ _ _ _ hx hy hK ..) (sc5 _ _ _ _ hx hy hK ..)
theorem sc3 (K k : Nat) (x y : ByteArray) (hx : x.size ≤ 1000000) (hy : y.size ≤ 1000000) (hK : 3 ≤ K) (r s : Int) (a b c d : Bool) : Sc (diffCleanupSemanticScore_j3 K (k + 10) x y r s a b c d) := by
  rw [diffCleanupSemanticScore_j3_eq, brk_ok K r (by omega)]
  exact Sc.br (sc4 _ _ _ _ hx hy hK ..) (sc4 _ _ _ _ hx hy hK ..)
theorem sc2 (K k : Nat) (x y : ByteArray) (hx : x.size ≤ 1000000) (hy : y.size ≤ 1000000) (hK : 3 ≤ K) (r s : Int) (a b c : Bool) : Sc (diffCleanupSemanticScore_j2 K (k + 11) x y r s a b c) := by
  rw [diffCleanupSemanticScore_j2_eq, white_ok K s (by omega)]
  exact Sc.br (sc3 _ _ _ _ hx hy hK ..) (sc3 _ _ _ _ hx hy hK ..)
theorem score_some (K : Nat) {x y : List Int} (hx : Asc x) (hy : Asc y) (lx : x.length ≤ 1000000) (ly : y.length ≤ 1000000) (hK : 20 ≤ K) : Sc (diffCleanupSemanticScore K (strOfRunes x) (strOfRunes y)) := by
  obtain ⟨K, rfl⟩ : ∃ m, K = m + 20 := ⟨K - 20, by omega⟩
  have sx := size_asc hx
  have sy := size_asc hy
  rw [diffCleanupSemanticScore_eq, sx, sy]
  have j0 : ∀ c : Bool, (c = false → x.length ≠ 0 ∧ y.length ≠ 0) → Sc (diffCleanupSemanticScore_j0 (K + 19) (K + 19) (strOfRunes x) (strOfRunes y) c) := by
    intro c hc
    rw [diffCleanupSemanticScore_j0_eq]
    cases c with
    | true => exact Sc.n 6 (by omega)
    | false =>
      obtain ⟨c1, c2⟩ := hc rfl
      rw [br_false, diffCleanupSemanticScore_j1_eq, decLast_asc _ hx (by omega) lx (by omega), dec_asc _ hy (by omega) ly (by omega)]
      simp only [Option.bind_some]
      rw [notAl_ok _ _ (by omega), notAl_ok _ _ (by omega), white_ok _ _ (by omega)]
      exact Sc.br (sc2 _ _ _ _ (by omega) (by omega) (by omega) ..) (sc2 _ _ _ _ (by omega) (by omega) (by omega) ..)
  by_cases e1 : x.length = 0
  · rw [br_eq (by omega)]; exact j0 true (fun h => by cases h)
  · rw [br_ne (by omega)]
    by_cases e2 : y.length = 0
    · rw [eqI_t (by omega)]; exact j0 true (fun h => by cases h)
    · rw [eqI_f (by omega)]; exact j0 false (fun _ => ⟨e1, e2⟩)
end Go.Proofs.YtaabfadjemmibaaDoor.E
