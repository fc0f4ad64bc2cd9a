import Derived.Test.YtfefjbifdbfmjaaDoorDG
/- Deltas: the specification's text. -/
set_option linter.unusedVariables false
set_option linter.unusedSimpArgs false
namespace Go.Proofs.YtfefjbifdbfmjaaDoor.E
open Go.Ev
/-- What the specification writes of the rest of the differences. -/
def sepOut (first : Bool) : List (Int × ByteArray) → List UInt8
  | [] => []
  | d :: r => (if first then [] else [9]) ++ (tokU d).flatMap outB ++ sepOut false r
theorem sep_units : ∀ l : List (Int × ByteArray), sepOut true l = (unitsJ l).flatMap outB
  | [] => rfl
  | [d] => by simp [sepOut, unitsJ]
  | d :: e :: r => by
    have ih := sep_units (e :: r)
    have h1 : sepOut false (e :: r) = 9 :: sepOut true (e :: r) := by simp [sepOut]
    show [] ++ (tokU d).flatMap outB ++ sepOut false (e :: r) = (tokU d ++ (false, 9) :: unitsJ (e :: r)).flatMap outB
    rw [h1, ih, List.flatMap_append, List.flatMap_cons]
    rfl
theorem of_loop (K : Nat) (hK : 500 ≤ K) (l : List TS1.den) (hl : l.length ≤ 100) (hs : ∀ d ∈ l, d.2.size ≤ 40 ∧ -1 ≤ d.1 ∧ d.1 ≤ 1) : ∀ (d i k : Nat) (acc : List UInt8), i + d = l.length → acc.length ≤ 700 * i → 4 * d + 1 ≤ k →
    DeltaOf_l0 K k ⟨acc.toArray⟩ l (l.length : Int) (i : Int) = some ⟨(acc ++ sepOut (decide (i = 0)) (l.drop i)).toArray⟩
  | 0, i, k, acc, h, ha, hk => by
    obtain ⟨k, rfl⟩ : ∃ m, k = m + 1 := ⟨k - 1, by omega⟩
    rw [DeltaOf_l0_eq, br_ge (by omega), List.drop_eq_nil_of_le (by omega)]
    show _ = some (⟨(acc ++ []).toArray⟩ : ByteArray)
    rw [List.append_nil]
  | d + 1, i, k, acc, h, ha, hk => by
    have hi : i < l.length := by omega
    have hn : nth TS1 l (i : Int) = l[i] := nth_at TS1 l i hi
    have hn0 : (nth TS1 [l[i]] 0) = l[i] := rfl
    obtain ⟨h1, h2, h3⟩ := hs (l[i]) (List.getElem_mem _)
    have ht := (tok_len (l[i]) (by omega)).2
    have hb := (tokU_bytes (l[i])).2
    have hrl := runesI_le (l[i]).2
    have fin : ∀ (k : Nat) (acc' : List UInt8), acc' = acc ++ (if (decide (i = 0)) then [] else [9]) ++ (tokU (l[i])).flatMap outB → 4 * d + 1 ≤ k → DeltaOf_l0 K k ⟨acc'.toArray⟩ l (l.length : Int) (IntKind.i64.wrap ((i : Int) + 1)) = some ⟨(acc ++ sepOut (decide (i = 0)) (l.drop i)).toArray⟩ := by
      rintro k acc' rfl hk
      rw [wrap_id (by omega) (by omega), show (i : Int) + 1 = ((i + 1 : Nat) : Int) by omega, of_loop K hK l hl hs d (i + 1) k _ (by omega) (by
        rw [List.length_append, List.length_append]
        have : (if decide (i = 0) = true then ([] : List UInt8) else [9]).length ≤ 1 := by split <;> simp
        omega) (by omega), List.drop_eq_getElem_cons hi]
      rw [decide_eq_false (show ¬ i + 1 = 0 by omega)]
      simp [sepOut]
    have j1 : ∀ (k : Nat) (acc' : List UInt8), acc' = acc ++ (if (decide (i = 0)) then [] else [9]) → 4 * d + 1 ≤ k → DeltaOf_j1 K (k + 1) ⟨acc'.toArray⟩ 0 [l[i]] l (l.length : Int) (i : Int) = some ⟨(acc ++ sepOut (decide (i = 0)) (l.drop i)).toArray⟩ := by
      intro k acc' hacc hk
      have hal : acc'.length ≤ acc.length + 1 := by
        rw [hacc, List.length_append]
        split <;> simp
      have done : ∀ (o : UInt8) (t : List UInt8), (tokU (l[i])).flatMap outB = o :: t → chk (nleI (ByteArray.size (⟨#[o]⟩ : ByteArray) + ByteArray.size ⟨t.toArray⟩) 9223372036854775807) (chk (nleI (ByteArray.size ⟨acc'.toArray⟩ + ByteArray.size (ByteArray.append (⟨#[o]⟩ : ByteArray) ⟨t.toArray⟩)) 9223372036854775807) (DeltaOf_l0 K k (ByteArray.append ⟨acc'.toArray⟩ (ByteArray.append (⟨#[o]⟩ : ByteArray) ⟨t.toArray⟩)) l (l.length : Int) (IntKind.i64.wrap ((i : Int) + 1)))) = some ⟨(acc ++ sepOut (decide (i = 0)) (l.drop i)).toArray⟩ := by
        intro o t hot
        have hl2 : t.length + 1 ≤ 610 := by
          rw [hot] at ht
          simpa using ht
        have e : ByteArray.append (⟨#[o]⟩ : ByteArray) ⟨t.toArray⟩ = ⟨(o :: t).toArray⟩ := mk_append [o] t
        rw [e, show (ByteArray.size ⟨#[o]⟩) = 1 from rfl, mk_size, mk_size, mk_size, chk_nle (by omega), chk_nle (by rw [List.length_cons]; omega), mk_append]
        exact fin k _ (by rw [hot, hacc]) hk
      rw [DeltaOf_j1_eq, hn0]
      by_cases c1 : (l[i]).1 = 1
      · rw [br_eq c1, dspec_ok K (l[i]).2 (by omega) (by omega), Option.bind_some]
        exact done 43 _ (by rw [hb, if_pos c1, c1]; rfl)
      · rw [br_ne c1]
        by_cases c2 : (l[i]).1 = -1
        · rw [br_eq c2, chk_nle (by omega), number_ok K (runesI (l[i]).2).length (by omega) (by omega), Option.bind_some]
          exact done 45 _ (by rw [hb, if_neg c1, c2]; rfl)
        · have c3 : (l[i]).1 = 0 := (by omega : ∀ x : Int, -1 ≤ x → x ≤ 1 → ¬ x = 1 → ¬ x = -1 → x = 0) _ h2 h3 c1 c2
          rw [br_ne c2, chk_nle (by omega), number_ok K (runesI (l[i]).2).length (by omega) (by omega), Option.bind_some]
          exact done 61 _ (by rw [hb, if_neg c1, c3]; rfl)
    obtain ⟨k, rfl⟩ : ∃ m, k = m + 1 + 1 + 1 := ⟨k - 3, by omega⟩
    rw [DeltaOf_l0_eq, br_lt (by omega), DeltaOf_j0_eq, hn, chk_le (by omega), chk_lt (by omega)]
    by_cases c0 : i = 0
    · rw [br_ge (by omega)]
      exact j1 k acc (by rw [c0]; simp) (by omega)
    · rw [br_lt (by omega), show (ByteArray.size ⟨#[9]⟩) = 1 from rfl, mk_size, chk_nle (by omega)]
      have e : ByteArray.append ⟨acc.toArray⟩ (⟨#[9]⟩ : ByteArray) = ⟨(acc ++ [9]).toArray⟩ := mk_append acc [9]
      rw [e]
      exact j1 k (acc ++ [9]) (by rw [decide_eq_false c0]; rfl) (by omega)
theorem of_ok (K : Nat) (l : List TS1.den) (hl : l.length ≤ 100) (hs : ∀ d ∈ l, d.2.size ≤ 40 ∧ -1 ≤ d.1 ∧ d.1 ≤ 1) (hK : 1000 ≤ K) : DeltaOf K l = some ⟨((unitsJ l).flatMap outB).toArray⟩ := by
  obtain ⟨K, rfl⟩ : ∃ m, K = m + 1 := ⟨K - 1, by omega⟩
  rw [DeltaOf_eq]
  have := of_loop K (by omega) l hl hs l.length 0 K [] (by omega) (by simp) (by omega)
  rw [← sep_units]
  simpa using this
end Go.Proofs.YtfefjbifdbfmjaaDoor.E
