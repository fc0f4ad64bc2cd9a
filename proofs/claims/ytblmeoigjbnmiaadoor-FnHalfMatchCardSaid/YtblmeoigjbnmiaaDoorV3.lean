import Derived.Test.YtblmeoigjbnmiaaDoorV2
/- Texts as lists of code points: beginnings, ends, parts. -/
set_option linter.unusedVariables false
set_option linter.unusedSimpArgs false
namespace Go.Proofs.YtblmeoigjbnmiaaDoor.E
open Go.Ev
abbrev M := Int × List Int
def enc1 (m : M) : TS1.den := (m.1, strOfRunes m.2)
def enc (l : List M) : List TS1.den := l.map enc1
theorem enc_app (a b : List M) : enc (a ++ b) = enc a ++ enc b := List.map_append
theorem enc_cons (a : M) (b : List M) : enc (a :: b) = (a.1, strOfRunes a.2) :: enc b := rfl
theorem enc_nil : enc [] = [] := rfl
theorem enc_len (a : List M) : (enc a).length = a.length := List.length_map _
theorem app_str (a b : List Int) : ByteArray.append (strOfRunes a) (strOfRunes b) = strOfRunes (a ++ b) := (strOfRunes_append a b).symm
theorem size_app' (a b : List Int) : (strOfRunes (a ++ b)).size = (strOfRunes a).size + (strOfRunes b).size := by rw [strOfRunes_append, size_app]
theorem size_le {a : List Int} (h : Okl a) : (strOfRunes a).size ≤ 4 * a.length := by rw [strOfRunes_size]; exact (encs8_len a h).2
theorem size_ge {a : List Int} (h : Okl a) : a.length ≤ (strOfRunes a).size := by rw [strOfRunes_size]; exact (encs8_len a h).1
theorem ext_to (q b : List Int) : ByteArray.extract (strOfRunes (q ++ b)) 0 ((strOfRunes (q ++ b)).size - (strOfRunes b).size) = strOfRunes q := by
  apply B_inj
  rw [B_to, size_app', Nat.add_sub_cancel, strOfRunes_append, B_append, ← B_size, List.take_left]
theorem ext_from (b q : List Int) : ByteArray.extract (strOfRunes (b ++ q)) (strOfRunes b).size (strOfRunes (b ++ q)).size = strOfRunes q := by
  apply B_inj
  rw [B_from, strOfRunes_append, B_append, ← B_size, List.drop_left]
theorem B_str (l : List Int) : B (strOfRunes l) = encs8 l := strOfRunes_data l
theorem hasSuffix_ok (K : Nat) (a b : List Int) (ha : Okl a) (hb : Okl b) (hl : a.length ≤ 1000000000000) (hK : 2 ≤ K) : strings_HasSuffix K (strOfRunes a) (strOfRunes b) = some (decide (b <:+ a)) := by
  obtain ⟨K, rfl⟩ : ∃ m, K = m + 1 := ⟨K - 1, by omega⟩
  obtain ⟨K, rfl⟩ : ∃ m, K = m + 1 := ⟨K - 1, by omega⟩
  have hsz := size_le ha
  rw [strings_HasSuffix_eq, stringslite_HasSuffix_eq]
  by_cases hs : (strOfRunes b).size ≤ (strOfRunes a).size
  · simp (disch := omega) only [chk_le, chk_lt, chk_eq, chk_nle, chk_neq, br_lt, br_ge, br_le, br_gt, br_eq, br_ne, br_not, br_true, br_false, br_and, wrap_id, obs, List.length_set, List.length_append, List.length_cons, List.length_nil, List.length_take, List.length_drop]
    simp only [Int.toNat_natCast, show ((((strOfRunes a).size : Int) - ((strOfRunes b).size : Int)).toNat) = (strOfRunes a).size - (strOfRunes b).size by omega]
    rw [eqS_iff]
    congr 1
    rw [decide_eq_decide]
    constructor
    · intro h
      by_cases hb0 : b = []
      · subst hb0; exact List.nil_suffix
      · have h2 := congrArg B h
        rw [B_from, B_str, B_str] at h2
        obtain ⟨q, hq, _⟩ := encs8_suffix a ((encs8 a).take ((strOfRunes a).size - (strOfRunes b).size)) b ha hb hb0 (by rw [← h2, List.take_append_drop])
        exact ⟨q, hq.symm⟩
    · rintro ⟨q, rfl⟩
      apply B_inj
      rw [B_from, size_app', Nat.add_sub_cancel, strOfRunes_append, B_append, ← B_size, List.drop_left]
  · simp (disch := omega) only [chk_le, chk_lt, chk_eq, chk_nle, chk_neq, br_lt, br_ge, br_le, br_gt, br_eq, br_ne, br_not, br_true, br_false, br_and, wrap_id, obs, List.length_set, List.length_append, List.length_cons, List.length_nil, List.length_take, List.length_drop]
    congr 1
    symm
    rw [decide_eq_false_iff_not]
    rintro ⟨q, rfl⟩
    rw [size_app'] at hs
    omega
theorem hasPrefix_ok (K : Nat) (a b : List Int) (ha : Okl a) (hb : Okl b) (hl : a.length ≤ 1000000000000) (hK : 2 ≤ K) : strings_HasPrefix K (strOfRunes a) (strOfRunes b) = some (decide (b <+: a)) := by
  obtain ⟨K, rfl⟩ : ∃ m, K = m + 1 := ⟨K - 1, by omega⟩
  obtain ⟨K, rfl⟩ : ∃ m, K = m + 1 := ⟨K - 1, by omega⟩
  have hsz := size_le ha
  rw [strings_HasPrefix_eq, stringslite_HasPrefix_eq]
  by_cases hs : (strOfRunes b).size ≤ (strOfRunes a).size
  · simp (disch := omega) only [chk_le, chk_lt, chk_eq, chk_nle, chk_neq, br_lt, br_ge, br_le, br_gt, br_eq, br_ne, br_not, br_true, br_false, br_and, wrap_id, obs, List.length_set, List.length_append, List.length_cons, List.length_nil, List.length_take, List.length_drop]
    simp only [Int.toNat_natCast, show Int.toNat 0 = 0 from rfl]
    rw [eqS_iff]
    congr 1
    rw [decide_eq_decide]
    constructor
    · intro h
      have h2 := congrArg B h
      rw [B_to, B_str, B_str] at h2
      obtain ⟨q, hq, _⟩ := encs8_prefix a b ((encs8 a).drop (strOfRunes b).size) ha hb (by rw [← h2, List.take_append_drop])
      exact ⟨q, hq.symm⟩
    · rintro ⟨q, rfl⟩
      apply B_inj
      rw [B_to, strOfRunes_append, B_append, ← B_size, List.take_left]
  · simp (disch := omega) only [chk_le, chk_lt, chk_eq, chk_nle, chk_neq, br_lt, br_ge, br_le, br_gt, br_eq, br_ne, br_not, br_true, br_false, br_and, wrap_id, obs, List.length_set, List.length_append, List.length_cons, List.length_nil, List.length_take, List.length_drop]
    congr 1
    symm
    rw [decide_eq_false_iff_not]
    rintro ⟨q, rfl⟩
    rw [size_app'] at hs
    omega
/-- What stands in a list: lengths of texts and a place each. -/
def wt : List M → Nat
  | [] => 0
  | m :: l => m.2.length + 1 + wt l
theorem wt_app : ∀ a b : List M, wt (a ++ b) = wt a + wt b
  | [], b => by simp [wt]
  | m :: a, b => by simp only [List.cons_append, wt, wt_app a b]; omega
theorem wt_len : ∀ a : List M, a.length ≤ wt a
  | [] => Nat.le_refl _
  | m :: a => by have := wt_len a; simp only [List.length_cons, wt]; omega
def Okm (l : List M) : Prop := ∀ m ∈ l, Okl m.2
theorem Okm.nil : Okm [] := fun m h => by cases h
theorem Okm.app {a b : List M} (ha : Okm a) (hb : Okm b) : Okm (a ++ b) := fun m hm => (List.mem_append.1 hm).elim (ha m) (hb m)
theorem Okm.cons {m : M} {a : List M} (hm : Okl m.2) (ha : Okm a) : Okm (m :: a) := fun x hx => (List.mem_cons.1 hx).elim (fun e => e ▸ hm) (ha x)
theorem Okm.left {a b : List M} (h : Okm (a ++ b)) : Okm a := fun m hm => h m (List.mem_append.2 (.inl hm))
theorem Okm.right {a b : List M} (h : Okm (a ++ b)) : Okm b := fun m hm => h m (List.mem_append.2 (.inr hm))
theorem Okm.head {m : M} {a : List M} (h : Okm (m :: a)) : Okl m.2 := h m (List.mem_cons_self ..)
theorem Okm.tail {m : M} {a : List M} (h : Okm (m :: a)) : Okm a := fun x hx => h x (List.mem_cons_of_mem _ hx)
end Go.Proofs.YtblmeoigjbnmiaaDoor.E
