import Derived.Test.YtmlfecgppnffgaaDoorRI
import Derived.Test.YtmlfecgppnffgaaDoorEvOk
/- The laws' small functions; the package's differences as the laws see them. -/
set_option linter.unusedVariables false
set_option linter.unusedSimpArgs false
namespace Go.Proofs.YtmlfecgppnffgaaDoor.E
open Go.Ev
set_option maxRecDepth 100000 in
theorem awakeT (K : Nat) : callFT Tc (K + 80) 19 () = some true := by kernel_rfl
theorem awake (K : Nat) (hK : 80 ≤ K) : diffAwake K = some true := by
  have h := awakeT (K - 80)
  rw [Tc_eq, show K - 80 + 80 = K by omega] at h
  exact h
def Small (l : List M) : Prop := ∀ m ∈ l, m.1 = 0 ∨ m.1 = 1 ∨ m.1 = -1
theorem getE {l : List M} {i : Nat} (h : i < l.length) : (enc l)[i]'(by rw [enc_len]; exact h) = ((l[i]).1, strOfRunes (l[i]).2) := by
  simp [enc, enc1]
theorem diffs_loop (K : Nat) (l : List M) (hl : l.length ≤ 1000000) (ht : Typed l) : ∀ (d i k : Nat) (acc : List TS2.den), i + d = l.length → acc.length = i → 2 * d + 1 ≤ k →
    diffs_l0 K k acc (enc l) (l.length : Int) (i : Int) = some (acc ++ enc (l.drop i))
  | 0, i, k, acc, h, ha, hk => by
    obtain ⟨k, rfl⟩ : ∃ m, k = m + 1 := ⟨k - 1, by omega⟩
    rw [diffs_l0_eq]
    simp (disch := omega) only [chk_le, chk_lt, chk_eq, chk_nle, chk_neq, br_lt, br_ge, br_le, br_gt, br_eq, br_ne, br_not, br_true, br_false, br_and, wrap_id, Option.bind_some, List.length_set, List.length_append, List.length_cons, List.length_nil, List.length_take, List.length_drop]
    rw [List.drop_eq_nil_of_le (by omega), enc_nil, List.append_nil]
  | d + 1, i, k, acc, h, ha, hk => by
    obtain ⟨k, rfl⟩ : ∃ m, k = m + 1 := ⟨k - 1, by omega⟩
    obtain ⟨k, rfl⟩ : ∃ m, k = m + 1 := ⟨k - 1, by omega⟩
    have hty := ht (l[i]'(by omega)) (List.getElem_mem _)
    have he := enc_len l
    rw [diffs_l0_eq]
    simp (disch := omega) only [chk_le, chk_lt, chk_eq, chk_nle, chk_neq, br_lt, br_ge, br_le, br_gt, br_eq, br_ne, br_not, br_true, br_false, br_and, wrap_id, Option.bind_some, List.length_set, List.length_append, List.length_cons, List.length_nil, List.length_take, List.length_drop]
    rw [diffs_j0_eq]
    simp (disch := omega) only [chk_le, chk_lt, chk_eq, chk_nle, chk_neq, br_lt, br_ge, br_le, br_gt, br_eq, br_ne, br_not, br_true, br_false, br_and, wrap_id, Option.bind_some, List.length_set, List.length_append, List.length_cons, List.length_nil, List.length_take, List.length_drop]
    rw [show (i : Int) + 1 = ((i + 1 : Nat) : Int) by omega, nth_at TS0 (enc l) i (by omega), getE (by omega)]
    simp only []
    rw [wrap8_id (by omega) (by omega), diffs_loop K l hl ht d (i + 1) k _ (by omega) (by simp; omega) (by omega), List.drop_eq_getElem_cons (i := i) (by omega), enc_cons, List.append_assoc]
    rfl
theorem diffs_ok (K : Nat) (l : List M) (hl : l.length ≤ 1000000) (ht : Typed l) (hK : 2 * l.length + 2 ≤ K) : diffs K (enc l) = some (enc l) := by
  obtain ⟨K, rfl⟩ : ∃ m, K = m + 1 := ⟨K - 1, by omega⟩
  rw [diffs_eq]
  have := diffs_loop K l hl ht l.length 0 K [] (by omega) rfl (by omega)
  rw [enc_len]
  simpa using this
theorem back_loop (K : Nat) (l : List M) (hl : l.length ≤ 1000000) (ht : Typed l) : ∀ (d i k : Nat) (acc : List TS0.den), i + d = l.length → acc.length = i → 2 * d + 1 ≤ k →
    back_l0 K k acc (enc l) (l.length : Int) (i : Int) = some (acc ++ enc (l.drop i))
  | 0, i, k, acc, h, ha, hk => by
    obtain ⟨k, rfl⟩ : ∃ m, k = m + 1 := ⟨k - 1, by omega⟩
    rw [back_l0_eq]
    simp (disch := omega) only [chk_le, chk_lt, chk_eq, chk_nle, chk_neq, br_lt, br_ge, br_le, br_gt, br_eq, br_ne, br_not, br_true, br_false, br_and, wrap_id, Option.bind_some, List.length_set, List.length_append, List.length_cons, List.length_nil, List.length_take, List.length_drop]
    rw [List.drop_eq_nil_of_le (by omega), enc_nil]
    exact congrArg some (List.append_nil _).symm
  | d + 1, i, k, acc, h, ha, hk => by
    obtain ⟨k, rfl⟩ : ∃ m, k = m + 1 := ⟨k - 1, by omega⟩
    obtain ⟨k, rfl⟩ : ∃ m, k = m + 1 := ⟨k - 1, by omega⟩
    have hty := ht (l[i]'(by omega)) (List.getElem_mem _)
    have he := enc_len l
    rw [back_l0_eq]
    simp (disch := omega) only [chk_le, chk_lt, chk_eq, chk_nle, chk_neq, br_lt, br_ge, br_le, br_gt, br_eq, br_ne, br_not, br_true, br_false, br_and, wrap_id, Option.bind_some, List.length_set, List.length_append, List.length_cons, List.length_nil, List.length_take, List.length_drop]
    rw [back_j0_eq]
    simp (disch := omega) only [chk_le, chk_lt, chk_eq, chk_nle, chk_neq, br_lt, br_ge, br_le, br_gt, br_eq, br_ne, br_not, br_true, br_false, br_and, wrap_id, Option.bind_some, List.length_set, List.length_append, List.length_cons, List.length_nil, List.length_take, List.length_drop]
    rw [show (i : Int) + 1 = ((i + 1 : Nat) : Int) by omega, nth_at TS2 (enc l) i (by omega), getE (by omega)]
    simp only []
    rw [wrap_id (by omega) (by omega), back_loop K l hl ht d (i + 1) k _ (by omega) (by simp; omega) (by omega), List.drop_eq_getElem_cons (i := i) (by omega), enc_cons, List.append_assoc]
    rfl
theorem back_ok (K : Nat) (l : List M) (hl : l.length ≤ 1000000) (ht : Typed l) (hK : 2 * l.length + 2 ≤ K) : back K (enc l) = some (enc l) := by
  obtain ⟨K, rfl⟩ : ∃ m, K = m + 1 := ⟨K - 1, by omega⟩
  rw [back_eq]
  have := back_loop K l hl ht l.length 0 K [] (by omega) rfl (by omega)
  rw [enc_len]
  simpa using this

theorem plain_ok (K : Nat) (hK : 2 ≤ K) : ∃ X : TS1.den, plain K = some X ∧ X.1 = 0 := by
  obtain ⟨K, rfl⟩ : ∃ m, K = m + 1 := ⟨K - 1, by omega⟩
  obtain ⟨K, rfl⟩ : ∃ m, K = m + 1 := ⟨K - 1, by omega⟩
  rw [plain_eq, New_eq]
  exact ⟨_, rfl, rfl⟩
/-- Texts that the laws speak of. -/
def txt (m : Int) (s : ByteArray) : Bool := decide ((s.size : Int) ≤ 4 * m) && (Go.Lib.validD s.data.toList && decide ((runesI s).length ≤ m))
theorem isDiffText_ok (K : Nat) (s : ByteArray) (m : Int) (h0 : 0 ≤ m) (hm : m ≤ 100000) (hs : s.size ≤ 9223372036854775806) (hK : 2 ≤ K) : IsDiffText K s m = some (txt m s) := by
  obtain ⟨K, rfl⟩ : ∃ m, K = m + 1 := ⟨K - 1, by omega⟩
  obtain ⟨K, rfl⟩ : ∃ m, K = m + 1 := ⟨K - 1, by omega⟩
  have e1 : ValidString (K + 1) s = validE s := rfl
  have e2 : RuneCountInString (K + 1) s = runeCountE s := rfl
  rw [IsDiffText_eq, wrap_id (by omega) (by omega), e1, e2]
  unfold validE runeCountE txt
  rw [if_pos (by omega), if_pos (by omega), runeCount_eq]
  simp only [Option.bind_some]
  by_cases h1 : (s.size : Int) ≤ 4 * m
  · rw [br_le h1, decide_eq_true h1, Bool.true_and]
    cases Go.Lib.validD s.data.toList with
    | false => rfl
    | true =>
      rw [br_true, Bool.true_and, leI_eq]
  · rw [br_gt (by omega), decide_eq_false h1, Bool.false_and]
theorem txt_vt {m : Int} {s : ByteArray} (h : txt m s = true) : Vt s ∧ (runesI s).length ≤ m := by
  unfold txt at h
  simp only [Bool.and_eq_true, decide_eq_true_eq] at h
  exact h.2
theorem diffOf_loop (K : Nat) (l : List TS0.den) (hl : l.length ≤ 1000000) : ∀ (d i k : Nat) (acc : List TS0.den), i + d = l.length → acc.length = i → 2 * d + 1 ≤ k →
    diffOf_l0 K k acc l (l.length : Int) (i : Int) = some (acc ++ l.drop i)
  | 0, i, k, acc, h, ha, hk => by
    obtain ⟨k, rfl⟩ : ∃ m, k = m + 1 := ⟨k - 1, by omega⟩
    rw [diffOf_l0_eq]
    simp (disch := omega) only [chk_le, chk_lt, chk_eq, chk_nle, chk_neq, br_lt, br_ge, br_le, br_gt, br_eq, br_ne, br_not, br_true, br_false, br_and, wrap_id, Option.bind_some, List.length_set, List.length_append, List.length_cons, List.length_nil, List.length_take, List.length_drop]
    rw [List.drop_eq_nil_of_le (by omega), List.append_nil]
  | d + 1, i, k, acc, h, ha, hk => by
    obtain ⟨k, rfl⟩ : ∃ m, k = m + 1 := ⟨k - 1, by omega⟩
    obtain ⟨k, rfl⟩ : ∃ m, k = m + 1 := ⟨k - 1, by omega⟩
    rw [diffOf_l0_eq]
    simp (disch := omega) only [chk_le, chk_lt, chk_eq, chk_nle, chk_neq, br_lt, br_ge, br_le, br_gt, br_eq, br_ne, br_not, br_true, br_false, br_and, wrap_id, Option.bind_some, List.length_set, List.length_append, List.length_cons, List.length_nil, List.length_take, List.length_drop]
    rw [diffOf_j0_eq]
    simp (disch := omega) only [chk_le, chk_lt, chk_eq, chk_nle, chk_neq, br_lt, br_ge, br_le, br_gt, br_eq, br_ne, br_not, br_true, br_false, br_and, wrap_id, Option.bind_some, List.length_set, List.length_append, List.length_cons, List.length_nil, List.length_take, List.length_drop]
    rw [show (i : Int) + 1 = ((i + 1 : Nat) : Int) by omega, nth_at TS0 l i (by omega), diffOf_loop K l hl d (i + 1) k _ (by omega) (by simp; omega) (by omega), List.drop_eq_getElem_cons (i := i) (by omega)]
    simp
theorem diffOf_ok (K : Nat) (l : List TS0.den) (hl : l.length ≤ 1000000) (hK : 2 * l.length + 2 ≤ K) : diffOf K l = some l := by
  obtain ⟨K, rfl⟩ : ∃ m, K = m + 1 := ⟨K - 1, by omega⟩
  rw [diffOf_eq]
  have := diffOf_loop K l hl l.length 0 K [] (by omega) rfl (by omega)
  simpa using this
/-- DiffMain, as the laws call it. -/
theorem main_law (s : Nat) (hs : s ≤ 6000) : ∃ F : Nat, ∀ (a b : ByteArray) (K : Nat), Vt a → Vt b → (runesI a).length + (runesI b).length ≤ s → F ≤ K → ∃ l, Main K a b false = some (enc l) ∧ Res (runesI a) (runesI b) l := by
  obtain ⟨X0, hX0, hz⟩ := plain_ok 2 (by omega)
  have hp : ∀ K, 2 ≤ K → plain K = some X0 := by
    intro K hK
    obtain ⟨k, rfl⟩ : ∃ k, K = k + 1 + 1 := ⟨K - 2, by omega⟩
    rw [plain_eq, New_eq]
    rw [show (2 : Nat) = 0 + 1 + 1 from rfl, plain_eq, New_eq] at hX0
    exact hX0
  obtain ⟨F, hF⟩ := main_all X0 hz s hs
  obtain ⟨G, hG⟩ : ∃ G : Nat, G = F + 20 * s + 100 := ⟨_, rfl⟩
  refine ⟨G, fun a b K ha hb hl hK => ?_⟩
  obtain ⟨k, rfl⟩ : ∃ k, K = k + 3 := ⟨K - 3, by omega⟩
  obtain ⟨l, h1, h2⟩ := hF (runesI a) (runesI b) k hl ha.okl hb.okl (by omega)
  have hw := h2.w
  have hwl := wt_len l
  refine ⟨l, ?_, h2⟩
  rw [Main_eq, hp _ (by omega), Option.bind_some, DiffMain_eq, chk_nle (by omega), chk_nle (by omega), DiffMainRunes_eq, h1, Option.bind_some, Option.bind_some, Option.bind_some, back_ok _ l (by omega) h2.ty (by omega), Option.bind_some]
theorem main_law_same (a : ByteArray) (fl : Bool) (K : Nat) (ha : Vt a) (hl : (runesI a).length ≤ 6000) (hK : 20000 ≤ K) : Main K a a fl = some (enc (one1 (runesI a))) := by
  obtain ⟨k, rfl⟩ : ∃ k, K = k + 3 := ⟨K - 3, by omega⟩
  obtain ⟨X0, hX0, hz⟩ := plain_ok (k + 2) (by omega)
  have h2 := one1_res ha.okl
  have hw := h2.w
  have hwl := wt_len (one1 (runesI a))
  have hlen : (one1 (runesI a)).length ≤ 1 := by
    unfold one1
    split <;> simp
  rw [Main_eq, hX0, Option.bind_some, DiffMain_eq, chk_nle (by omega), chk_nle (by omega), DiffMainRunes_eq, main_same k X0 _ fl (by omega) (by omega), Option.bind_some, Option.bind_some, Option.bind_some, back_ok _ _ (by omega) h2.ty (by omega), Option.bind_some]
/-! ### how many are inserted and deleted -/
def insN : List M → Nat
  | [] => 0
  | m :: l => (if m.1 = 1 then m.2.length else 0) + insN l
def delN : List M → Nat
  | [] => 0
  | m :: l => (if m.1 = -1 then m.2.length else 0) + delN l
theorem ins_del : ∀ {l : List M}, Typed l → mc l = insN l + delN l ∧ (side 1 l).length + insN l = (side (-1) l).length + delN l
  | [], _ => ⟨rfl, rfl⟩
  | m :: l, t => by
    obtain ⟨h1, h2⟩ := ins_del t.tail
    rcases t m (List.mem_cons_self ..) with h | h | h <;> simp [mc, insN, delN, side, h] <;> omega
theorem count_ok (K : Nat) {x : List Int} (hx : Okl x) (hl : x.length ≤ 1000000) (hK : 1 ≤ K) : RuneCountInString K (strOfRunes x) = some (x.length : Int) := by
  obtain ⟨K, rfl⟩ : ∃ m, K = m + 1 := ⟨K - 1, by omega⟩
  have e : RuneCountInString (K + 1) (strOfRunes x) = runeCountE (strOfRunes x) := rfl
  have hs := size_le hx
  rw [e]
  unfold runeCountE
  rw [if_pos (by omega), runeCount_eq, runesI_of hx]
theorem edits_loop (K : Nat) (l : List M) (hl : wt l ≤ 1000000) (ho : Okm l) (tT : Typed l) (hK : 1 ≤ K) : ∀ (d i k n e : Nat), i + d = l.length → n + e + wt (l.drop i) ≤ 1000000 → 3 * d + 1 ≤ k →
    DiffEdits_l0 K k (n : Int) (e : Int) (enc l) (l.length : Int) (i : Int) = some (((n + insN (l.drop i) : Nat) : Int), ((e + delN (l.drop i) : Nat) : Int))
  | 0, i, k, n, e, h, hw, hk => by
    obtain ⟨k, rfl⟩ : ∃ m, k = m + 1 := ⟨k - 1, by omega⟩
    rw [DiffEdits_l0_eq, br_ge (by omega), List.drop_eq_nil_of_le (by omega)]
    rfl
  | d + 1, i, k, n, e, h, hw, hk => by
    have hwl := wt_len l
    have hi : i < l.length := by omega
    have hd := List.drop_eq_getElem_cons hi
    have hom := ho (l[i]) (List.getElem_mem _)
    have hty := tT (l[i]) (List.getElem_mem _)
    have hen := enc_len l
    rw [hd] at hw ⊢
    simp only [wt] at hw
    obtain ⟨k, rfl⟩ : ∃ m, k = m + 1 := ⟨k - 1, by omega⟩
    obtain ⟨k, rfl⟩ : ∃ m, k = m + 1 := ⟨k - 1, by omega⟩
    obtain ⟨k, rfl⟩ : ∃ m, k = m + 1 := ⟨k - 1, by omega⟩
    rw [DiffEdits_l0_eq, br_lt (by omega), DiffEdits_j0_eq, chk_le (by omega), chk_lt (by omega), nth_at TS0 (enc l) i (by omega), getE hi, count_ok K hom (by omega) hK, Option.bind_some]
    have e0 : nth TS0 [((l[i]).1, strOfRunes (l[i]).2)] 0 = ((l[i]).1, strOfRunes (l[i]).2) := rfl
    rw [DiffEdits_j1_eq, DiffEdits_j1_eq, e0]
    simp only [insN, delN]
    rcases hty with h0 | h0 | h0
    · rw [h0, br_ne (by omega), br_ne (by omega), wrap_id (x := (i : Int) + 1) (by omega) (by omega), show (i : Int) + 1 = ((i + 1 : Nat) : Int) by omega, edits_loop K l hl ho tT hK d (i + 1) k n e (by omega) (by omega) (by omega)]
      simp
    · rw [h0, br_eq rfl, br_ne (by omega), wrap_id (x := (i : Int) + 1) (by omega) (by omega), wrap_id (x := (n : Int) + _) (by omega) (by omega), show (i : Int) + 1 = ((i + 1 : Nat) : Int) by omega, show (n : Int) + ((l[i]).2.length : Int) = ((n + (l[i]).2.length : Nat) : Int) by omega, edits_loop K l hl ho tT hK d (i + 1) k _ e (by omega) (by omega) (by omega)]
      simp [Nat.add_assoc]
    · rw [h0, br_ne (by omega), br_eq rfl, wrap_id (x := (i : Int) + 1) (by omega) (by omega), wrap_id (x := (e : Int) + _) (by omega) (by omega), show (i : Int) + 1 = ((i + 1 : Nat) : Int) by omega, show (e : Int) + ((l[i]).2.length : Int) = ((e + (l[i]).2.length : Nat) : Int) by omega, edits_loop K l hl ho tT hK d (i + 1) k n _ (by omega) (by omega) (by omega)]
      simp [Nat.add_assoc]
theorem edits_ok (K : Nat) (l : List M) (hl : wt l ≤ 1000000) (ho : Okm l) (tT : Typed l) (hK : 3 * l.length + 3 ≤ K) : DiffEdits K (enc l) = some ((insN l : Int), (delN l : Int)) := by
  obtain ⟨K, rfl⟩ : ∃ m, K = m + 1 := ⟨K - 1, by omega⟩
  rw [DiffEdits_eq, enc_len]
  have := edits_loop K l hl ho tT (by omega) l.length 0 K 0 0 (by omega) (by simpa using hl) (by omega)
  simpa using this
end Go.Proofs.YtmlfecgppnffgaaDoor.E
