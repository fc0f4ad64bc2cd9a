import Derived.Test.YtfefjbifdbfmjaaDoorDI
/- Coloured text: what the package writes is what the specification says. -/
set_option linter.unusedVariables false
set_option linter.unusedSimpArgs false
namespace Go.Proofs.YtfefjbifdbfmjaaDoor.E
open Go.Ev
def lineB (col : List UInt8) (c : UInt8) : List UInt8 := if c = 10 then [27, 91, 48, 109, 10] ++ col else [c]
def colB (t : Int) : List UInt8 := if t < 0 then [27, 91, 51, 49, 109] else [27, 91, 51, 50, 109]
theorem colB_len (t : Int) : (colB t).length = 5 := by
  unfold colB
  split <;> rfl
theorem lineB_len (t : Int) (c : UInt8) : (lineB (colB t) c).length ≤ 10 := by
  have := colB_len t
  unfold lineB
  split
  · rw [List.length_append, this]; decide
  · simp
def textD (d : Int × ByteArray) : List UInt8 := if d.1 = 0 then B d.2 else colB d.1 ++ (B d.2).flatMap (lineB (colB d.1)) ++ [27, 91, 48, 109]
theorem textD_len (d : Int × ByteArray) (h : d.2.size ≤ 40) : (textD d).length ≤ 500 := by
  have h1 := flat_len (lineB_len d.1) (B d.2)
  have h2 := colB_len d.1
  have h4 := B_size d.2
  unfold textD
  split
  · omega
  · rw [List.length_append, List.length_append]
    simp only [List.length_cons, List.length_nil]
    omega
/-! ### the package -/
theorem exists_join (c : UInt8) : ∀ l : List UInt8, ∃ ts : List (List UInt8), ts ≠ [] ∧ (∀ t ∈ ts, c ∉ t) ∧ joinB c ts = l ∧ ts.length ≤ l.length + 1
  | [] => ⟨[[]], by simp, by simp, rfl, by simp⟩
  | x :: l => by
    obtain ⟨ts, h0, hn, hj, hl⟩ := exists_join c l
    cases ts with
    | nil => exact absurd rfl h0
    | cons t r =>
      by_cases e : x = c
      · refine ⟨[] :: t :: r, by simp, fun u hu => ?_, ?_, by simp at hl ⊢; omega⟩
        · rcases List.mem_cons.1 hu with rfl | hu
          · simp
          · exact hn u hu
        · show [] ++ c :: joinB c (t :: r) = x :: l
          rw [hj, e]
          rfl
      · refine ⟨(x :: t) :: r, by simp, fun u hu => ?_, ?_, by simp at hl ⊢; omega⟩
        · rcases List.mem_cons.1 hu with rfl | hu
          · intro hm
            rcases List.mem_cons.1 hm with h | h
            · exact e h.symm
            · exact hn t (List.mem_cons_self ..) h
          · exact hn u (List.mem_cons_of_mem _ hu)
        · rw [← hj]
          cases r <;> rfl
theorem flat_no (col : List UInt8) : ∀ t : List UInt8, (10 : UInt8) ∉ t → t.flatMap (lineB col) = t
  | [], _ => rfl
  | x :: t, h => by
    have e : x ≠ 10 := fun e => h (by rw [e]; exact List.mem_cons_self ..)
    rw [List.flatMap_cons, flat_no col t (fun hm => h (List.mem_cons_of_mem _ hm))]
    unfold lineB
    rw [if_neg e]
    rfl
theorem linesF_ok (col : List UInt8) (hc : col.length = 5) : ∀ (ts : List (List UInt8)) (acc : List UInt8), ts ≠ [] → (∀ t ∈ ts, (10 : UInt8) ∉ t) → acc.length + 20 * (joinB 10 ts).length + 20 * ts.length ≤ 1000000 →
    linesF ⟨col.toArray⟩ (ts.map fun t => (⟨t.toArray⟩ : ByteArray)) acc = some (acc ++ (col ++ (joinB 10 ts).flatMap (lineB col) ++ [27, 91, 48, 109]))
  | [], _, h, _, _ => absurd rfl h
  | [t], acc, _, hn, hb => by
    show wr3 acc ⟨col.toArray⟩ ⟨t.toArray⟩ ⟨#[27, 91, 48, 109]⟩ = some (acc ++ (col ++ t.flatMap (lineB col) ++ [27, 91, 48, 109]))
    have hb : acc.length + 20 * t.length + 20 * 1 ≤ 1000000 := hb
    rw [flat_no col t (hn t (List.mem_cons_self ..))]
    unfold wr3
    rw [mk_size, mk_size, show (ByteArray.size ⟨#[27, 91, 48, 109]⟩) = 4 from rfl, if_pos (by omega)]
    simp
  | t :: u :: r, acc, _, hn, hb => by
    have hlen : (joinB 10 (t :: u :: r)).length = t.length + 1 + (joinB 10 (u :: r)).length := by
      show (t ++ 10 :: joinB 10 (u :: r)).length = _
      rw [List.length_append, List.length_cons]
      omega
    rw [hlen, List.length_cons] at hb
    have ih := linesF_ok col hc (u :: r) (acc ++ (col ++ t ++ [27, 91, 48, 109, 10])) (by simp) (fun x hx => hn x (List.mem_cons_of_mem _ hx)) (by rw [List.length_append, List.length_append, List.length_append, hc]; simp only [List.length_cons, List.length_nil] at hb ⊢; omega)
    show (wr3 acc ⟨col.toArray⟩ ⟨t.toArray⟩ ⟨#[27, 91, 48, 109, 10]⟩).bind (linesF ⟨col.toArray⟩ (List.map (fun t => (⟨t.toArray⟩ : ByteArray)) (u :: r))) = some (acc ++ (col ++ (t ++ 10 :: joinB 10 (u :: r)).flatMap (lineB col) ++ [27, 91, 48, 109]))
    have hw : wr3 acc ⟨col.toArray⟩ ⟨t.toArray⟩ ⟨#[27, 91, 48, 109, 10]⟩ = some (acc ++ (col ++ t ++ [27, 91, 48, 109, 10])) := by
      unfold wr3
      rw [mk_size, mk_size, show (ByteArray.size ⟨#[27, 91, 48, 109, 10]⟩) = 5 from rfl, if_pos (by omega)]
      simp
    rw [hw, Option.bind_some, ih, List.flatMap_append, List.flatMap_cons, flat_no col t (hn t (List.mem_cons_self ..)), show lineB col 10 = [27, 91, 48, 109, 10] ++ col from rfl]
    simp
theorem ptextF_ok (sp : ByteArray → Option (List ByteArray)) (hsp : ∀ (ts : List (List UInt8)), ts ≠ [] → (∀ t ∈ ts, (10 : UInt8) ∉ t) → (joinB 10 ts).length ≤ 40 → ts.length ≤ 41 → sp ⟨(joinB 10 ts).toArray⟩ = some (ts.map fun t => (⟨t.toArray⟩ : ByteArray))) :
    ∀ (l : List (Int × ByteArray)) (acc : List UInt8), (∀ d ∈ l, d.2.size ≤ 40 ∧ -1 ≤ d.1 ∧ d.1 ≤ 1) → acc.length + 500 * l.length ≤ 900000 → ptextF sp l acc = some (acc ++ l.flatMap textD)
  | [], acc, _, _ => by rw [ptextF_nil, List.flatMap_nil, List.append_nil]
  | d :: l, acc, hs, hb => by
    obtain ⟨h1, h2, h3⟩ := hs d (List.mem_cons_self ..)
    have hm := textD_len d h1
    have hB := B_size d.2
    rw [List.length_cons] at hb
    have ih := ptextF_ok sp hsp l (acc ++ textD d) (fun x hx => hs x (List.mem_cons_of_mem _ hx)) (by rw [List.length_append]; omega)
    have hw : ∀ col : List UInt8, col.length = 5 → textD d = col ++ (B d.2).flatMap (lineB col) ++ [27, 91, 48, 109] → ((sp d.2).bind fun ls => if 1 ≤ ls.length ∧ ls.length ≤ 1000000000 then linesF ⟨col.toArray⟩ ls acc else none).bind (ptextF sp l) = some (acc ++ (d :: l).flatMap textD) := by
      intro col hc ht
      obtain ⟨ts, t0, tn, tj, tl⟩ := exists_join 10 (B d.2)
      have e := hsp ts t0 tn (by rw [tj]; omega) (by omega)
      rw [tj, mk_B] at e
      have hpos : 0 < ts.length := List.length_pos_iff.2 t0
      rw [e, Option.bind_some, List.length_map, if_pos (by omega), linesF_ok col hc ts acc t0 tn (by rw [tj]; omega), tj, ← ht, Option.bind_some, ih, List.flatMap_cons, List.append_assoc]
    rw [ptextF_cons]
    by_cases c1 : d.1 = 1
    · rw [if_pos c1]
      exact hw [27, 91, 51, 50, 109] rfl (by unfold textD; rw [c1]; rfl)
    · rw [if_neg c1]
      by_cases c2 : d.1 = -1
      · rw [if_pos c2]
        exact hw [27, 91, 51, 49, 109] rfl (by unfold textD; rw [c2]; rfl)
      · have c3 : d.1 = 0 := by omega
        have ht : textD d = B d.2 := by unfold textD; rw [if_pos c3]
        rw [if_neg c2, if_pos c3, if_pos (by omega), List.flatMap_cons, ← List.append_assoc, ← ih, ht]
        rfl
theorem ptext_ok (K : Nat) (l : List TS1.den) (hl : l.length ≤ 12) (hs : ∀ d ∈ l, d.2.size ≤ 40 ∧ -1 ≤ d.1 ∧ d.1 ≤ 1) (hK : 1000 ≤ K) : PrettyText K l = some ⟨(l.flatMap textD).toArray⟩ := by
  obtain ⟨K, rfl⟩ : ∃ m, K = m + 3 := ⟨K - 3, by omega⟩
  obtain ⟨X, hX⟩ := plain_ok (K + 2) (by omega)
  rw [PrettyText_eq, hX, Option.bind_some, diffs_ok (K + 2) l (by omega) (fun d hd => (hs d hd).2) (by omega), Option.bind_some]
  have h : DiffPrettyText (K + 1 + 1) l = ptextE (fun s => zzSplit (K + 1) s ⟨#[10]⟩) l := rfl
  rw [show K + 2 = K + 1 + 1 from rfl, h]
  unfold ptextE
  rw [if_pos (by omega), ptextF_ok _ (fun ts t0 tn tj tl => split_ok (K + 1) 10 ts t0 tn (by omega) (by omega) (by omega)) l [] hs (by simp; omega)]
  rfl
/-! ### the specification -/
theorem ltxt_in (K m : Nat) (l : List TS1.den) (len p : Int) (dd : Int × ByteArray) (t : Int) (hs : dd.2.size ≤ 1000) : ∀ (d i : Nat) (acc : List UInt8), i + d = dd.2.size → acc.length ≤ 100000 + 10 * i →
    PrettyLines_l1 K (2 * d + 1 + m) ⟨acc.toArray⟩ 0 [dd] ⟨(colB t).toArray⟩ l len p (dd.2.size : Int) (i : Int) = PrettyLines_l0 K m ⟨(acc ++ ((B dd.2).drop i).flatMap (lineB (colB t)) ++ [27, 91, 48, 109]).toArray⟩ l len (IntKind.i64.wrap (p + 1))
  | 0, i, acc, h, ha => by
    rw [show 2 * 0 + 1 + m = m + 1 by omega, PrettyLines_l1_eq, br_ge (by omega)]
    rw [mk_size, show (ByteArray.size ⟨#[27, 91, 48, 109]⟩) = 4 from rfl, chk_nle (by omega), List.drop_eq_nil_of_le (by rw [B_size]; omega), List.flatMap_nil, List.append_nil]
    have e : ByteArray.append ⟨acc.toArray⟩ (⟨#[27, 91, 48, 109]⟩ : ByteArray) = ⟨(acc ++ [27, 91, 48, 109]).toArray⟩ := mk_append acc [27, 91, 48, 109]
    rw [e]
  | d + 1, i, acc, h, ha => by
    rw [show 2 * (d + 1) + 1 + m = (2 * d + 1 + m) + 1 + 1 by omega]
    have hi : i < (B dd.2).length := by rw [B_size]; omega
    have hn : (nth TS1 [dd] 0) = dd := rfl
    have hc := colB_len t
    have step : ∀ x : List UInt8, x.length ≤ 10 → lineB (colB t) (B dd.2)[i] = x → PrettyLines_l1 K (2 * d + 1 + m) (ByteArray.append ⟨acc.toArray⟩ ⟨x.toArray⟩) 0 [dd] ⟨(colB t).toArray⟩ l len p (dd.2.size : Int) (IntKind.i64.wrap ((i : Int) + 1)) = PrettyLines_l0 K m ⟨(acc ++ ((B dd.2).drop i).flatMap (lineB (colB t)) ++ [27, 91, 48, 109]).toArray⟩ l len (IntKind.i64.wrap (p + 1)) := by
      intro x hx he'
      rw [wrap_id (by omega) (by omega), show (i : Int) + 1 = ((i + 1 : Nat) : Int) by omega, mk_append, ltxt_in K m l len p dd t hs d (i + 1) _ (by omega) (by rw [List.length_append]; omega), List.drop_eq_getElem_cons hi, List.flatMap_cons, he', List.append_assoc, List.append_assoc, List.append_assoc, List.append_assoc]
    rw [PrettyLines_l1_eq, br_lt (by omega), PrettyLines_j3_eq, hn, chk_le (by omega), chk_lt (by omega), bt_at dd.2 i (by omega), e10, br_dec]
    unfold lineB at step
    split
    · rename_i c
      rw [if_pos c] at step
      have e : ByteArray.append (⟨#[27, 91, 48, 109, 10]⟩ : ByteArray) ⟨(colB t).toArray⟩ = ⟨([27, 91, 48, 109, 10] ++ colB t).toArray⟩ := mk_append [27, 91, 48, 109, 10] (colB t)
      have hl5 : ([27, 91, 48, 109, 10] ++ colB t).length = 10 := by rw [List.length_append, hc]; rfl
      rw [e]
      simp only [mk_size]
      rw [chk_nle (by show 5 + _ ≤ _; omega), chk_nle (by omega)]
      exact step _ (by omega) rfl
    · rename_i c
      rw [if_neg c] at step
      have hx : ByteArray.extract dd.2 (Int.toNat (i : Int)) (Int.toNat ((i : Int) + 1)) = ⟨[(B dd.2)[i]].toArray⟩ := B_inj (by
        rw [B_extract, show Int.toNat ((i : Int) + 1) - Int.toNat (i : Int) = 1 by omega, Int.toNat_natCast, List.drop_eq_getElem_cons hi]
        rfl)
      have hw := wrap_id (x := (i : Int) + 1) (by omega) (by omega)
      have st := step _ (by simp) rfl
      rw [hw] at st ⊢
      rw [chk_le (by omega), chk_le (by omega), chk_le (by omega), hx, mk_size, mk_size, chk_nle (by simp; omega)]
      exact st
theorem ltxt_loop (K : Nat) (l : List TS1.den) (hl : l.length ≤ 1000) (hs : ∀ d ∈ l, d.2.size ≤ 40) : ∀ (d i k : Nat) (acc : List UInt8), i + d = l.length → acc.length ≤ 500 * i → 100 * d + 1 ≤ k → 500 * l.length ≤ 90000 →
    PrettyLines_l0 K k ⟨acc.toArray⟩ l (l.length : Int) (i : Int) = some ⟨(acc ++ (l.drop i).flatMap textD).toArray⟩
  | 0, i, k, acc, h, ha, hk, hb => by
    obtain ⟨k, rfl⟩ : ∃ m, k = m + 1 := ⟨k - 1, by omega⟩
    rw [PrettyLines_l0_eq, br_ge (by omega), List.drop_eq_nil_of_le (by omega), List.flatMap_nil, List.append_nil]
  | d + 1, i, k, acc, h, ha, hk, hb => by
    have hi : i < l.length := by omega
    have hd := hs (l[i]) (List.getElem_mem _)
    have hm := textD_len (l[i]) hd
    have hB := B_size (l[i]).2
    have hn : nth TS1 l (i : Int) = l[i] := nth_at TS1 l i hi
    have hn0 : (nth TS1 [l[i]] 0) = l[i] := rfl
    have next : ∀ (k' : Nat) (acc' : List UInt8), acc' = acc ++ textD (l[i]) → 100 * d + 1 ≤ k' → PrettyLines_l0 K k' ⟨acc'.toArray⟩ l (l.length : Int) (IntKind.i64.wrap ((i : Int) + 1)) = some ⟨(acc ++ (l.drop i).flatMap textD).toArray⟩ := by
      rintro k' acc' rfl hk'
      rw [wrap_id (by omega) (by omega), show (i : Int) + 1 = ((i + 1 : Nat) : Int) by omega, ltxt_loop K l hl hs d (i + 1) k' _ (by omega) (by rw [List.length_append]; omega) hk' hb, List.drop_eq_getElem_cons hi, List.flatMap_cons, List.append_assoc]
    have j2 : ∀ k', (l[i]).1 ≠ 0 → 2 * (l[i]).2.size + 1 + (100 * d + 1) ≤ k' → PrettyLines_j2 K (k' + 1) ⟨acc.toArray⟩ 0 [l[i]] ⟨(colB (l[i]).1).toArray⟩ l (l.length : Int) (i : Int) = some ⟨(acc ++ (l.drop i).flatMap textD).toArray⟩ := by
      intro k' h0 hk'
      have hc := colB_len (l[i]).1
      obtain ⟨m, rfl⟩ : ∃ m, k' = 2 * (l[i]).2.size + 1 + m := ⟨k' - (2 * (l[i]).2.size + 1), by omega⟩
      have h1 := ltxt_in K m l (l.length : Int) (i : Int) (l[i]) (l[i]).1 (by omega) (l[i]).2.size 0 (acc ++ colB (l[i]).1) (by omega) (by rw [List.length_append]; omega)
      rw [show ((0 : Nat) : Int) = 0 from rfl] at h1
      rw [PrettyLines_j2_eq, mk_size, mk_size, chk_nle (by omega), mk_append, hn0, h1]
      refine next m _ ?_ (by omega)
      unfold textD
      rw [if_neg h0, List.drop_zero]
      simp only [List.append_assoc]
    obtain ⟨k', rfl⟩ : ∃ m, k = m + 1 + 1 + 1 + 1 := ⟨k - 4, by omega⟩
    rw [PrettyLines_l0_eq, br_lt (by omega), PrettyLines_j0_eq, hn, chk_le (by omega), chk_lt (by omega)]
    by_cases h1 : (l[i]).1 = 0
    · have ea : ByteArray.append ⟨acc.toArray⟩ (l[i]).2 = ⟨(acc ++ B (l[i]).2).toArray⟩ := by
        conv => lhs; rw [← mk_B (l[i]).2]
        exact mk_append _ _
      rw [br_eq h1, mk_size, chk_nle (by omega), ea]
      exact next _ _ (by unfold textD; rw [if_pos h1]) (by omega)
    · rw [br_ne h1, PrettyLines_j1_eq, hn0]
      by_cases h2 : (l[i]).1 < 0
      · rw [br_lt h2]
        have := j2 k' h1 (by omega)
        rwa [show colB (l[i]).1 = [27, 91, 51, 49, 109] from if_pos h2] at this
      · rw [br_ge (Int.not_lt.1 h2)]
        have := j2 k' h1 (by omega)
        rwa [show colB (l[i]).1 = [27, 91, 51, 50, 109] from if_neg h2] at this
theorem ltxt_ok (K : Nat) (l : List TS1.den) (hl : l.length ≤ 100) (hs : ∀ d ∈ l, d.2.size ≤ 40) (hK : 100 * l.length + 2 ≤ K) : PrettyLines K l = some ⟨(l.flatMap textD).toArray⟩ := by
  obtain ⟨K, rfl⟩ : ∃ m, K = m + 1 := ⟨K - 1, by omega⟩
  rw [PrettyLines_eq]
  have := ltxt_loop K l (by omega) hs l.length 0 K [] (by omega) (by simp) (by omega) (by omega)
  simpa using this
end Go.Proofs.YtfefjbifdbfmjaaDoor.E
