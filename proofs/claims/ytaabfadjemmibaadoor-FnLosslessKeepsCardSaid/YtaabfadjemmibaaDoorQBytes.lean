import Derived.Test.YtaabfadjemmibaaDoorQUtf8
import Derived.Laws.Strings
/- Texts as lists of bytes. -/
namespace Go.Proofs.YtaabfadjemmibaaDoorX
open Go.RowKit Go.Lib
/-- The bytes of a text. -/
def B (s : ByteArray) : List UInt8 := s.data.toList
theorem B_size (s : ByteArray) : (B s).length = s.size := szL s
theorem B_append (a b : ByteArray) : B (a ++ b) = B a ++ B b := by simp [B, ByteArray.data_append]
theorem B_extract (a : ByteArray) (i j : Nat) : B (a.extract i j) = ((B a).drop i).take (j - i) := by
  show (a.extract i j).data.toList = _
  rw [ByteArray.data_extract, Array.toList_extract, List.extract_eq_take_drop]
  rfl
theorem B_from (a : ByteArray) (i : Nat) : B (a.extract i a.size) = (B a).drop i := by
  rw [B_extract, List.take_of_length_le (by rw [List.length_drop, B_size]; omega)]
theorem B_to (a : ByteArray) (j : Nat) : B (a.extract 0 j) = (B a).take j := by
  rw [B_extract]
  simp
theorem B_inj {a b : ByteArray} (h : B a = B b) : a = b := ba_ext h
theorem B_toList (a : ByteArray) : a.toList = B a := ByteArray.toList_eq a
theorem B_nil : B ⟨#[]⟩ = [] := rfl
theorem B_mk (l : List UInt8) : B ⟨l.toArray⟩ = l := rfl
theorem size_app (a b : ByteArray) : (a ++ b).size = a.size + b.size := by rw [← B_size, B_append, List.length_append, B_size, B_size]
theorem toList_nil_iff (a : ByteArray) : a.toList = ([] : List UInt8) ↔ a.size = 0 := by
  rw [B_toList, ← B_size]
  exact ⟨fun h => by rw [h]; rfl, fun h => List.eq_nil_of_length_eq_zero h⟩
theorem size0 {a : ByteArray} (h : a.size = 0) : a = ⟨#[]⟩ := B_inj (List.eq_nil_of_length_eq_zero (by rw [B_size, h]))
/-- A text of code points is always valid. -/
theorem fix_enc (r : Int) : ∃ r', okR r' ∧ encL r = encL r' := by
  by_cases h : okR r
  · exact ⟨r, h, rfl⟩
  · refine ⟨65533, by unfold okR; omega, ?_⟩
    have hv : Utf8.valid r = false := by
      cases hv : Utf8.valid r with
      | false => rfl
      | true =>
        exfalso
        apply h
        simp only [Utf8.valid, Bool.or_eq_true, Bool.and_eq_true, decide_eq_true_eq] at hv
        unfold okR
        omega
    unfold encL Utf8.encode
    rw [hv]
    rfl
theorem fix_encs : ∀ l : List Int, ∃ l', Okl l' ∧ encs8 l = encs8 l'
  | [] => ⟨[], Okl.nil, rfl⟩
  | r :: l => by
    obtain ⟨r', h1, h2⟩ := fix_enc r
    obtain ⟨l', h3, h4⟩ := fix_encs l
    exact ⟨r' :: l', fun x hx => (List.mem_cons.1 hx).elim (fun e => e ▸ h1) (h3 x), by rw [encs8_cons, encs8_cons, h2, h4]⟩
theorem Vt_str (l : List Int) : Vt (strOfRunes l) := by
  obtain ⟨l', h1, h2⟩ := fix_encs l
  unfold Vt
  rw [strOfRunes_data, h2]
  exact valid_encs l' h1
theorem Vt_iff (s : ByteArray) : strOfRunes (runesI s) = s ↔ Vt s := ⟨fun h => h ▸ Vt_str _, fun h => h.back⟩
end Go.Proofs.YtaabfadjemmibaaDoorX
