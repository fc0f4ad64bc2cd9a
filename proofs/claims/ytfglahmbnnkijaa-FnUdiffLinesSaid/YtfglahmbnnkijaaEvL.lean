import Derived.Test.YtfglahmbnnkijaaEv4
import Derived.Lib.ValidLaws
import Derived.Lib.RuneCount
import Derived.Laws.Strings
/- UTF-8: valid texts are the texts of lists of code points; prefixes and suffixes of texts are those of the lists. -/
namespace Go.Ev
open Go.RowKit Go.Lib
/-- A code point that has a form. -/
def okR (r : Int) : Prop := (0 ≤ r ∧ r < 55296) ∨ (57344 ≤ r ∧ r ≤ 1114111)
instance (r : Int) : Decidable (okR r) := by unfold okR; infer_instance
def encL (r : Int) : List UInt8 := (Utf8.encode r).data.toList
def encs8 (l : List Int) : List UInt8 := l.flatMap encL
theorem encs8_cons (r : Int) (l : List Int) : encs8 (r :: l) = encL r ++ encs8 l := rfl
theorem encs8_append (a b : List Int) : encs8 (a ++ b) = encs8 a ++ encs8 b := by simp [encs8]
theorem strOfRunes_data (l : List Int) : (strOfRunes l).data.toList = encs8 l := by
  have h : ∀ (l : List Int) (acc : ByteArray), (l.foldl (fun r n => r ++ Utf8.encode n) acc).data.toList = acc.data.toList ++ encs8 l := by
    intro l
    induction l with
    | nil => intro acc; simp [encs8]
    | cons x r ih => intro acc; rw [List.foldl_cons, ih, encs8_cons]; simp [encL]
  exact (h l ByteArray.empty).trans (by simp)
theorem ba_ext {a b : ByteArray} (h : a.data.toList = b.data.toList) : a = b := by
  cases a; cases b; simp only at h; rw [Array.toList_inj.1 h]
theorem ofL (s : ByteArray) : (⟨s.data.toList.toArray⟩ : ByteArray) = s := by cases s; simp
theorem strOfRunes_append (a b : List Int) : strOfRunes (a ++ b) = strOfRunes a ++ strOfRunes b := by
  apply ba_ext
  rw [ByteArray.data_append, Array.toList_append, strOfRunes_data, strOfRunes_data, strOfRunes_data, encs8_append]
set_option maxRecDepth 20000 in
/-- The bytes of a code point. -/
theorem encL_cases (r : Int) (h : okR r) : ∃ c : Nat, r = (c : Int) ∧ ((c < 128 ∧ encL r = [UInt8.ofNat c]) ∨ (128 ≤ c ∧ c < 2048 ∧ encL r = [UInt8.ofNat (192 + c / 64), UInt8.ofNat (128 + c % 64)]) ∨
    (2048 ≤ c ∧ c < 65536 ∧ (c < 55296 ∨ 57344 ≤ c) ∧ encL r = [UInt8.ofNat (224 + c / 4096), UInt8.ofNat (128 + c / 64 % 64), UInt8.ofNat (128 + c % 64)]) ∨
    (65536 ≤ c ∧ c ≤ 1114111 ∧ encL r = [UInt8.ofNat (240 + c / 262144), UInt8.ofNat (128 + c / 4096 % 64), UInt8.ofNat (128 + c / 64 % 64), UInt8.ofNat (128 + c % 64)])) := by
  obtain ⟨c, rfl⟩ : ∃ c : Nat, r = (c : Int) := ⟨r.toNat, by unfold okR at h; omega⟩
  refine ⟨c, rfl, ?_⟩
  have hv : Utf8.valid (c : Int) = true := by
    unfold okR at h
    simp only [Utf8.valid, Bool.or_eq_true, Bool.and_eq_true, decide_eq_true_eq]
    omega
  have he : encL (c : Int) = (Utf8.encode (c : Int)).data.toList := rfl
  unfold Utf8.encode at he
  simp only [hv, if_true, Int.toNat_natCast] at he
  unfold okR at h
  by_cases h1 : c < 128
  · rw [if_pos h1] at he; exact .inl ⟨h1, by rw [he]⟩
  rw [if_neg h1] at he
  by_cases h2 : c < 2048
  · rw [if_pos h2] at he; exact .inr (.inl ⟨by omega, h2, by rw [he]⟩)
  rw [if_neg h2] at he
  by_cases h3 : c < 65536
  · rw [if_pos h3] at he; exact .inr (.inr (.inl ⟨by omega, h3, by omega, by rw [he]⟩))
  rw [if_neg h3] at he
  exact .inr (.inr (.inr ⟨by omega, by omega, by rw [he]⟩))
theorem getb (l : List UInt8) (i : Nat) : (⟨l.toArray⟩ : ByteArray).get! i = l.getD i 0 := by
  show (l.toArray)[i]! = _
  simp [List.getD_eq_getElem?_getD]
  rfl
theorem getB (s : ByteArray) (i : Nat) : s.get! i = s.data.toList.getD i 0 := by rw [← getb, ofL]
theorem szL (s : ByteArray) : s.data.toList.length = s.size := (Lib.size_eq s).symm
theorem take1 {l : List UInt8} (h : 0 < l.length) : [l.getD 0 0] = l.take 1 := by
  match l, h with
  | a :: t, _ => simp
theorem take2 {l : List UInt8} (h : 1 < l.length) : [l.getD 0 0, l.getD 1 0] = l.take 2 := by
  match l, h with
  | a :: b :: t, _ => simp
theorem take3 {l : List UInt8} (h : 2 < l.length) : [l.getD 0 0, l.getD 1 0, l.getD 2 0] = l.take 3 := by
  match l, h with
  | a :: b :: c :: t, _ => simp
theorem take4 {l : List UInt8} (h : 3 < l.length) : [l.getD 0 0, l.getD 1 0, l.getD 2 0, l.getD 3 0] = l.take 4 := by
  match l, h with
  | a :: b :: c :: d :: t, _ => simp
theorem decodeL_eq (l : List UInt8) : decodeL l = decodeN l.length (l.getD 0 0).toNat (l.getD 1 0).toNat (l.getD 2 0).toNat (l.getD 3 0).toNat := by
  have := decode_at ⟨l.toArray⟩ 0
  rw [getb, getb, getb, getb] at this
  exact this
theorem tn (n : Nat) (h : n < 256) : (UInt8.ofNat n).toNat = n := by simp [UInt8.toNat_ofNat']; omega
theorem encL_len (r : Int) (h : okR r) : 1 ≤ (encL r).length ∧ (encL r).length ≤ 4 := by
  obtain ⟨c, _, ⟨_, e⟩ | ⟨_, _, e⟩ | ⟨_, _, _, e⟩ | ⟨_, _, e⟩⟩ := encL_cases r h <;> rw [e] <;> simp
set_option maxHeartbeats 1000000 in
/-- A code point's form is read back. -/
theorem dec_enc (r : Int) (t : List UInt8) (h : okR r) : decodeL (encL r ++ t) = (r.toNat, (encL r).length) := by
  obtain ⟨c, rfl, ⟨h1, e⟩ | ⟨h0, h1, e⟩ | ⟨h0, h1, h2, e⟩ | ⟨h0, h1, e⟩⟩ := encL_cases r h
  · rw [decodeL_eq, e]
    simp only [List.cons_append, List.nil_append, List.getD_cons_zero, List.length_cons, Int.toNat_natCast, List.length_nil]
    rw [tn _ (by omega)]
    unfold decodeN
    rw [if_pos h1]
  · rw [decodeL_eq, e]
    simp only [List.cons_append, List.nil_append, List.getD_cons_zero, List.getD_cons_succ, List.length_cons, Int.toNat_natCast, List.length_nil]
    rw [tn _ (by omega), tn _ (by omega)]
    unfold decodeN
    rw [if_neg (by omega), if_pos (by omega), if_pos (by omega)]
    apply Prod.ext <;> simp only <;> omega
  · rw [decodeL_eq, e]
    simp only [List.cons_append, List.nil_append, List.getD_cons_zero, List.getD_cons_succ, List.length_cons, Int.toNat_natCast, List.length_nil]
    rw [tn _ (by omega), tn _ (by omega), tn _ (by omega)]
    unfold decodeN
    rw [if_neg (by omega), if_neg (by omega), if_pos (by omega), if_pos (by omega)]
    apply Prod.ext <;> simp only <;> omega
  · rw [decodeL_eq, e]
    simp only [List.cons_append, List.nil_append, List.getD_cons_zero, List.getD_cons_succ, List.length_cons, Int.toNat_natCast, List.length_nil]
    rw [tn _ (by omega), tn _ (by omega), tn _ (by omega), tn _ (by omega)]
    unfold decodeN
    rw [if_neg (by omega), if_neg (by omega), if_neg (by omega), if_pos (by omega), if_pos (by omega)]
    apply Prod.ext <;> simp only <;> omega
theorem ofNat_toNat' (b : UInt8) (n : Nat) (h : b.toNat = n) : UInt8.ofNat n = b := by rw [← h]; simp
set_option maxHeartbeats 1000000 in
/-- What is read and is no error is a code point's form. -/
theorem dec_inv (l : List UInt8) (hl : l ≠ []) (hn : ¬ ((decodeL l).1 = 65533 ∧ (decodeL l).2 = 1)) : okR ((decodeL l).1 : Int) ∧ encL ((decodeL l).1 : Int) = l.take (decodeL l).2 := by
  have key : ∀ (n : Nat) (b0 b1 b2 b3 : Nat), b0 < 256 → b1 < 256 → b2 < 256 → b3 < 256 → ∀ c w, decodeN n b0 b1 b2 b3 = (c, w) → ¬ (c = 65533 ∧ w = 1) → okR (c : Int) ∧
      ((w = 1 ∧ c < 128 ∧ c = b0) ∨ (w = 2 ∧ 1 < n ∧ 128 ≤ c ∧ c < 2048 ∧ 192 + c / 64 = b0 ∧ 128 + c % 64 = b1) ∨
       (w = 3 ∧ 2 < n ∧ 2048 ≤ c ∧ c < 65536 ∧ 224 + c / 4096 = b0 ∧ 128 + c / 64 % 64 = b1 ∧ 128 + c % 64 = b2) ∨
       (w = 4 ∧ 3 < n ∧ 65536 ≤ c ∧ c ≤ 1114111 ∧ 240 + c / 262144 = b0 ∧ 128 + c / 4096 % 64 = b1 ∧ 128 + c / 64 % 64 = b2 ∧ 128 + c % 64 = b3)) := by
    intro n b0 b1 b2 b3 h0 h1 h2 h3 c w hd hne
    unfold decodeN at hd
    unfold okR
    by_cases c1 : b0 < 128
    · rw [if_pos c1] at hd; cases hd; omega
    rw [if_neg c1] at hd
    split at hd
    · split at hd
      · cases hd; omega
      · cases hd; exact absurd ⟨rfl, rfl⟩ hne
    · split at hd
      · split at hd
        · cases hd; omega
        · cases hd; exact absurd ⟨rfl, rfl⟩ hne
      · split at hd
        · split at hd
          · cases hd; omega
          · cases hd; exact absurd ⟨rfl, rfl⟩ hne
        · cases hd; exact absurd ⟨rfl, rfl⟩ hne
  obtain ⟨hok, hc⟩ := key l.length _ _ _ _ (l.getD 0 0).toNat_lt (l.getD 1 0).toNat_lt (l.getD 2 0).toNat_lt (l.getD 3 0).toNat_lt (decodeL l).1 (decodeL l).2 (decodeL_eq l).symm hn
  refine ⟨hok, ?_⟩
  obtain ⟨c, hcr, hcs⟩ := encL_cases _ hok
  obtain rfl : c = (decodeL l).1 := by omega
  have hnl : 0 < l.length := List.length_pos_iff.2 hl
  rcases hc with ⟨hw, g1, g2⟩ | ⟨hw, gn, g1, g2, g3, g4⟩ | ⟨hw, gn, g1, g2, g3, g4, g5⟩ | ⟨hw, gn, g1, g2, g3, g4, g5, g6⟩
  · rcases hcs with ⟨_, e⟩ | h | h | h
    · rw [e, hw, ofNat_toNat' _ _ g2.symm]
      exact take1 hnl
    all_goals omega
  · rcases hcs with h | ⟨_, _, e⟩ | h | h
    · omega
    · rw [e, hw, ofNat_toNat' _ _ g3.symm, ofNat_toNat' _ _ g4.symm]
      exact take2 gn
    all_goals omega
  · rcases hcs with h | h | ⟨_, _, _, e⟩ | h
    · omega
    · omega
    · rw [e, hw, ofNat_toNat' _ _ g3.symm, ofNat_toNat' _ _ g4.symm, ofNat_toNat' _ _ g5.symm]
      exact take3 gn
    all_goals omega
  · rcases hcs with h | h | h | ⟨_, _, e⟩
    · omega
    · omega
    · omega
    · rw [e, hw, ofNat_toNat' _ _ g3.symm, ofNat_toNat' _ _ g4.symm, ofNat_toNat' _ _ g5.symm, ofNat_toNat' _ _ g6.symm]
      exact take4 gn
theorem encL_ne (r : Int) (h : okR r) : encL r ≠ [] := fun e => by have := encL_len r h; rw [e] at this; simp at this
/-- Code points of bytes. -/
def runesF : Nat → List UInt8 → List Int
  | 0, _ => []
  | n + 1, l => if l = [] then [] else ((decodeL l).1 : Int) :: runesF n (l.drop (decodeL l).2)
theorem runesF_fuel : ∀ (n m : Nat) (l : List UInt8), l.length ≤ n → l.length ≤ m → runesF n l = runesF m l
  | 0, m, l, hn, _ => by
    obtain rfl : l = [] := List.eq_nil_of_length_eq_zero (by omega)
    cases m <;> simp [runesF]
  | n + 1, 0, l, _, hm => by
    obtain rfl : l = [] := List.eq_nil_of_length_eq_zero (by omega)
    simp [runesF]
  | n + 1, m + 1, l, hn, hm => by
    unfold runesF
    by_cases hne : l = []
    · simp [hne]
    · have hw := decodeL_width l
      have hl : 0 < l.length := List.length_pos_iff.2 hne
      rw [if_neg hne, if_neg hne, runesF_fuel n m (l.drop (decodeL l).2) (by rw [List.length_drop]; omega) (by rw [List.length_drop]; omega)]
def runesB (l : List UInt8) : List Int := runesF l.length l
theorem runesB_nil : runesB [] = [] := rfl
theorem runesB_step (l : List UInt8) (hne : l ≠ []) : runesB l = ((decodeL l).1 : Int) :: runesB (l.drop (decodeL l).2) := by
  have hl : 0 < l.length := List.length_pos_iff.2 hne
  have hw := decodeL_width l
  obtain ⟨n, hn⟩ : ∃ n, l.length = n + 1 := ⟨l.length - 1, by omega⟩
  unfold runesB
  rw [hn]
  show (if l = [] then [] else _) = _
  rw [if_neg hne, runesF_fuel n (l.drop (decodeL l).2).length _ (by rw [List.length_drop]; omega) (Nat.le_refl _)]
theorem valid_encs : ∀ (l : List Int), (∀ r ∈ l, okR r) → validD (encs8 l) = true
  | [], _ => rfl
  | r :: l, h => by
    have hr := h r (by simp)
    have hd := dec_enc r (encs8 l) hr
    rw [encs8_cons, validD_step _ (by have := encL_ne r hr; simp [this]), hd]
    rw [if_neg, List.drop_left, valid_encs l (fun x hx => h x (by simp [hx]))]
    rintro ⟨h1, h2⟩
    obtain ⟨c, hc, ⟨k, e⟩ | ⟨_, _, e⟩ | ⟨_, _, _, e⟩ | ⟨_, _, e⟩⟩ := encL_cases r hr
    · simp only [hc, Int.toNat_natCast] at h1; omega
    all_goals rw [e] at h2; simp at h2
theorem valid_runes : ∀ (n : Nat) (l : List UInt8), l.length ≤ n → validD l = true → encs8 (runesB l) = l ∧ ∀ r ∈ runesB l, okR r
  | 0, l, hn, _ => by
    obtain rfl : l = [] := List.eq_nil_of_length_eq_zero (by omega)
    exact ⟨rfl, fun r hr => by cases hr⟩
  | n + 1, l, hn, hv => by
    by_cases hne : l = []
    · subst hne; exact ⟨rfl, fun r hr => by cases hr⟩
    have hl : 0 < l.length := List.length_pos_iff.2 hne
    have hw := decodeL_width l
    rw [validD_step l hne] at hv
    split at hv
    · cases hv
    rename_i hno
    obtain ⟨hok, he⟩ := dec_inv l hne hno
    obtain ⟨h1, h2⟩ := valid_runes n (l.drop (decodeL l).2) (by rw [List.length_drop]; omega) hv
    rw [runesB_step l hne]
    refine ⟨?_, fun r hr => ?_⟩
    · rw [encs8_cons, he, h1, List.take_append_drop]
    · rcases List.mem_cons.1 hr with rfl | hr
      · exact hok
      · exact h2 r hr
/-- A valid text. -/
def Vt (s : ByteArray) : Prop := validD s.data.toList = true
/-- Code points that have a form. -/
def Okl (l : List Int) : Prop := ∀ r ∈ l, okR r
theorem Okl.nil : Okl [] := fun r h => by cases h
theorem Okl.append {a b : List Int} (ha : Okl a) (hb : Okl b) : Okl (a ++ b) := fun r hr => (List.mem_append.1 hr).elim (ha r) (hb r)
theorem Okl.left {a b : List Int} (h : Okl (a ++ b)) : Okl a := fun r hr => h r (List.mem_append.2 (.inl hr))
theorem Okl.right {a b : List Int} (h : Okl (a ++ b)) : Okl b := fun r hr => h r (List.mem_append.2 (.inr hr))
theorem Okl.take {a : List Int} (h : Okl a) (n : Nat) : Okl (a.take n) := fun r hr => h r (List.mem_of_mem_take hr)
theorem Okl.drop {a : List Int} (h : Okl a) (n : Nat) : Okl (a.drop n) := fun r hr => h r (List.mem_of_mem_drop hr)
theorem runesFrom_eq (s : ByteArray) : ∀ (b i : Nat) (acc : Array Value), s.size - i ≤ b → intsOf (Conv.runesFrom s b i acc).toList = intsOf acc.toList ++ runesB (s.data.toList.drop i)
  | 0, i, acc, h => by
    rw [List.drop_eq_nil_of_le (by have := szL s; omega)]
    simp [Conv.runesFrom, runesB_nil]
  | b + 1, i, acc, h => by
    have hsz := szL s
    unfold Conv.runesFrom
    by_cases hi : i < s.size
    · rw [if_pos hi]
      have hd : Utf8.decode s i = decodeL (s.data.toList.drop i) := by
        have e0 : ∀ k, (s.get! (i + k)) = (s.data.toList.drop i).getD k 0 := by
          intro k
          rw [getB, List.getD_eq_getElem?_getD, List.getD_eq_getElem?_getD, List.getElem?_drop]
        rw [decodeL_eq, decode_at, List.length_drop, hsz, ← e0 0, ← e0 1, ← e0 2, ← e0 3]
        rfl
      have hw := decodeL_width (s.data.toList.drop i)
      simp only
      rw [runesFrom_eq s b _ _ (by rw [hd]; omega), runesB_step (s.data.toList.drop i) (by rw [← List.length_pos_iff, List.length_drop, hsz]; omega), hd, List.drop_drop]
      simp [intsOf]
    · rw [if_neg hi, List.drop_eq_nil_of_le (by omega)]
      simp [runesB_nil]
theorem runesI_eq (s : ByteArray) : runesI s = runesB s.data.toList := by
  unfold runesI
  rw [runesFrom_eq s s.size 0 #[] (by omega)]
  simp [intsOf]
theorem Vt.okl {s : ByteArray} (h : Vt s) : Okl (runesI s) := by rw [runesI_eq]; exact (valid_runes _ _ (Nat.le_refl _) h).2
theorem Vt.back {s : ByteArray} (h : Vt s) : strOfRunes (runesI s) = s := by
  apply ba_ext
  rw [strOfRunes_data, runesI_eq]
  exact (valid_runes _ _ (Nat.le_refl _) h).1
theorem Vt.of {l : List Int} (h : Okl l) : Vt (strOfRunes l) := by unfold Vt; rw [strOfRunes_data]; exact valid_encs l h
theorem Vt.append {s t : ByteArray} (hs : Vt s) (ht : Vt t) : Vt (s ++ t) := by
  rw [← hs.back, ← ht.back, ← strOfRunes_append]
  exact Vt.of (hs.okl.append ht.okl)
theorem Vt.nil : Vt ⟨#[]⟩ := rfl
end Go.Ev
/- Texts as lists of bytes. -/
namespace Go.Ev
open Go.RowKit Go.Lib
/-- The bytes of a text. -/
def B (s : ByteArray) : List UInt8 := s.data.toList
theorem B_size (s : ByteArray) : (B s).length = s.size := szL s
theorem B_append (a b : ByteArray) : B (a ++ b) = B a ++ B b := by simp [B, ByteArray.data_append]
theorem B_extract (a : ByteArray) (i j : Nat) : B (a.extract i j) = ((B a).drop i).take (j - i) := by
  show (a.extract i j).data.toList = _
  rw [ByteArray.data_extract, Array.toList_extract, List.extract_eq_take_drop]
  rfl
theorem B_to (a : ByteArray) (j : Nat) : B (a.extract 0 j) = (B a).take j := by
  rw [B_extract]
  simp
theorem B_inj {a b : ByteArray} (h : B a = B b) : a = b := ba_ext h
theorem B_toList (a : ByteArray) : a.toList = B a := ByteArray.toList_eq a
theorem size_app (a b : ByteArray) : (a ++ b).size = a.size + b.size := by rw [← B_size, B_append, List.length_append, B_size, B_size]
theorem size0 {a : ByteArray} (h : a.size = 0) : a = ⟨#[]⟩ := B_inj (List.eq_nil_of_length_eq_zero (by rw [B_size, h]))
/-- A text of code points is always valid. -/
theorem fix_enc (r : Int) : ∃ r', okR r' ∧ encL r = encL r' := by
  by_cases h : okR r
  · exact ⟨r, h, rfl⟩
  · refine ⟨65533, by unfold okR; omega, ?_⟩
    have hv : Utf8.valid r = false := by
      cases hv : Utf8.valid r with
      | false => rfl
      | true =>
        exfalso
        apply h
        simp only [Utf8.valid, Bool.or_eq_true, Bool.and_eq_true, decide_eq_true_eq] at hv
        unfold okR
        omega
    unfold encL Utf8.encode
    rw [hv]
    rfl
theorem fix_encs : ∀ l : List Int, ∃ l', Okl l' ∧ encs8 l = encs8 l'
  | [] => ⟨[], Okl.nil, rfl⟩
  | r :: l => by
    obtain ⟨r', h1, h2⟩ := fix_enc r
    obtain ⟨l', h3, h4⟩ := fix_encs l
    exact ⟨r' :: l', fun x hx => (List.mem_cons.1 hx).elim (fun e => e ▸ h1) (h3 x), by rw [encs8_cons, encs8_cons, h2, h4]⟩
theorem Vt_str (l : List Int) : Vt (strOfRunes l) := by
  obtain ⟨l', h1, h2⟩ := fix_encs l
  unfold Vt
  rw [strOfRunes_data, h2]
  exact valid_encs l' h1
theorem Vt_iff (s : ByteArray) : strOfRunes (runesI s) = s ↔ Vt s := ⟨fun h => h ▸ Vt_str _, fun h => h.back⟩
end Go.Ev

namespace Go.Ev
end Go.Ev

/- Conditions that are known. -/
namespace Go.Ev
section
variable {R : Type} {a b : R} {o : Option R} {x y : Int} {m n : Nat}
theorem chk_le (h : x ≤ y) : chk (leI x y) o = o := by rw [leI_eq, decide_eq_true h]; rfl
theorem chk_lt (h : x < y) : chk (ltI x y) o = o := by rw [ltI_eq, decide_eq_true h]; rfl
theorem chk_nle (h : m ≤ n) : chk (nleI m n) o = o := by rw [nleI_eq, decide_eq_true h]; rfl
theorem chk_neq (h : ¬ x = y) : chk (!eqI x y) o = o := by rw [eqI_eq, decide_eq_false h]; rfl
theorem br_lt (h : x < y) : br (ltI x y) a b = a := by rw [ltI_eq, decide_eq_true h]; rfl
theorem br_ge (h : y ≤ x) : br (ltI x y) a b = b := by rw [ltI_eq, decide_eq_false (by omega)]; rfl
theorem br_le (h : x ≤ y) : br (leI x y) a b = a := by rw [leI_eq, decide_eq_true h]; rfl
theorem br_gt (h : y < x) : br (leI x y) a b = b := by rw [leI_eq, decide_eq_false (by omega)]; rfl
theorem br_eq (h : x = y) : br (eqI x y) a b = a := by rw [eqI_eq, decide_eq_true h]; rfl
theorem br_ne (h : ¬ x = y) : br (eqI x y) a b = b := by rw [eqI_eq, decide_eq_false h]; rfl
theorem br_not (c : Bool) : br (!c) a b = br c b a := by cases c <;> rfl
theorem br_true : br true a b = a := rfl
theorem br_false : br false a b = b := rfl
theorem wrap_id (h0 : -9223372036854775808 ≤ x) (h1 : x ≤ 9223372036854775807) : IntKind.i64.wrap x = x := by
  unfold IntKind.wrap
  simp only [IntKind.signed, IntKind.bits, Bool.true_and]
  split <;> rename_i h <;> simp at h <;> omega
end
theorem eqI_t {x y : Int} (h : x = y) : eqI x y = true := by rw [eqI_eq, decide_eq_true h]
theorem eqS_iff (s t : ByteArray) : eqS s t = decide (s = t) := by
  rw [eqS_eq, B_toList, B_toList]
  by_cases h : s = t
  · subst h; simp
  · rw [decide_eq_false h]
    cases hb : B s == B t with
    | false => rfl
    | true => exact absurd (B_inj (by simpa using hb)) h
theorem nth_at (t : Ty) (xs : List t.den) (i : Nat) (h : i < xs.length) : nth t xs (i : Int) = xs[i] := by
  simp [nth, List.getD_eq_getElem?_getD, List.getElem?_eq_getElem h]
theorem nth_mid (t : Ty) (A : List t.den) (d : t.den) (B : List t.den) : nth t (A ++ d :: B) (A.length : Int) = d := by
  rw [nth_at _ _ _ (by simp)]
  simp
theorem set_mid {α : Type} (A : List α) (d e : α) (B : List α) : (A ++ d :: B).set A.length e = A ++ e :: B := by
  rw [List.set_append_right _ _ (Nat.le_refl _)]
  simp
theorem runesI_le (s : ByteArray) : (runesI s).length ≤ s.size := by
  rw [runes_length]
  have := size_runesFrom s s.size 0 #[]
  simpa using this
/-- As Option.bind_some, but not by unfolding: so the kernel does not look into what follows. -/
theorem obs {α β : Type} (a : α) (f : α → Option β) : Option.bind (some a) f = f a := Eq.trans (Option.bind_some a f) (Eq.refl _)
end Go.Ev
