import Derived.Test.YtfefjbifdbfmjaaDoorDI
/- Deltas: read back. -/
set_option linter.unusedVariables false
set_option linter.unusedSimpArgs false
namespace Go.Proofs.YtfefjbifdbfmjaaDoor.E
open Go.Ev
def sideR (l : List (Int × ByteArray)) : List Int := l.flatMap fun d => if d.1 = 1 then [] else runesI d.2
def sideB (l : List (Int × ByteArray)) : List UInt8 := l.flatMap fun d => if d.1 = 1 then [] else B d.2
theorem B_runes {s : ByteArray} (h : Vt s) : B s = encs8 (runesI s) := by
  conv => lhs; rw [← h.back]
  exact strOfRunes_data _
theorem side_enc : ∀ (l : List (Int × ByteArray)), (∀ d ∈ l, Vt d.2) → sideB l = encs8 (sideR l) ∧ Okl (sideR l)
  | [], _ => ⟨rfl, Okl.nil⟩
  | d :: l, h => by
    obtain ⟨ih, io⟩ := side_enc l (fun x hx => h x (List.mem_cons_of_mem _ hx))
    have hd := h d (List.mem_cons_self ..)
    have e1 : sideB (d :: l) = (if d.1 = 1 then [] else B d.2) ++ sideB l := List.flatMap_cons ..
    have e2 : sideR (d :: l) = (if d.1 = 1 then [] else runesI d.2) ++ sideR l := List.flatMap_cons ..
    rw [e1, e2]
    split
    · exact ⟨ih, io⟩
    · rw [encs8_append, ih, ← B_runes hd]
      exact ⟨rfl, hd.okl.append io⟩
theorem side_str (l : List (Int × ByteArray)) (h : ∀ d ∈ l, Vt d.2) : (⟨(sideB l).toArray⟩ : ByteArray) = strOfRunes (sideR l) := B_inj (by
  rw [B_mk, (side_enc l h).1]
  exact (strOfRunes_data _).symm)
theorem side_loop (K : Nat) (l : List TS1.den) (hl : l.length ≤ 1000) (hs : ∀ d ∈ l, d.2.size ≤ 1000) : ∀ (d i k : Nat) (acc : List UInt8), i + d = l.length → acc.length ≤ 1000 * i → 2 * d + 1 ≤ k →
    CleanSide_l0 K k 1 ⟨acc.toArray⟩ l (l.length : Int) (i : Int) = some ⟨(acc ++ sideB (l.drop i)).toArray⟩
  | 0, i, k, acc, h, ha, hk => by
    obtain ⟨k, rfl⟩ : ∃ m, k = m + 1 := ⟨k - 1, by omega⟩
    rw [CleanSide_l0_eq, br_ge (by omega), List.drop_eq_nil_of_le (by omega)]
    show _ = some (⟨(acc ++ []).toArray⟩ : ByteArray)
    rw [List.append_nil]
  | d + 1, i, k, acc, h, ha, hk => by
    obtain ⟨k, rfl⟩ : ∃ m, k = m + 1 := ⟨k - 1, by omega⟩
    obtain ⟨k, rfl⟩ : ∃ m, k = m + 1 := ⟨k - 1, by omega⟩
    have hi : i < l.length := by omega
    have hn : nth TS1 l (i : Int) = l[i] := nth_at TS1 l i hi
    have hd := hs (l[i]) (List.getElem_mem _)
    have hB := B_size (l[i]).2
    have e1 : sideB (l.drop i) = (if (l[i]).1 = 1 then [] else B (l[i]).2) ++ sideB (l.drop (i + 1)) := by
      rw [List.drop_eq_getElem_cons hi]
      exact List.flatMap_cons ..
    rw [CleanSide_l0_eq, br_lt (by omega), CleanSide_j0_eq, chk_le (by omega), chk_lt (by omega), hn, wrap_id (by omega) (by omega), show (i : Int) + 1 = ((i + 1 : Nat) : Int) by omega, br_not, e1]
    by_cases c : (l[i]).1 = 1
    · rw [br_eq c, if_pos c, side_loop K l hl hs d (i + 1) k acc (by omega) (by omega) (by omega), List.nil_append]
    · have ea : ByteArray.append ⟨acc.toArray⟩ (l[i]).2 = ⟨(acc ++ B (l[i]).2).toArray⟩ := by
        conv => lhs; rw [← mk_B (l[i]).2]
        exact mk_append _ _
      rw [br_ne c, if_neg c, mk_size, chk_nle (by omega), ea, side_loop K l hl hs d (i + 1) k _ (by omega) (by rw [List.length_append]; omega) (by omega), List.append_assoc]
theorem side_ok (K : Nat) (l : List TS1.den) (hl : l.length ≤ 1000) (hs : ∀ d ∈ l, d.2.size ≤ 1000) (hK : 2 * l.length + 2 ≤ K) : CleanSide K l 1 = some ⟨(sideB l).toArray⟩ := by
  obtain ⟨K, rfl⟩ : ∃ m, K = m + 1 := ⟨K - 1, by omega⟩
  rw [CleanSide_eq]
  have := side_loop K l hl hs l.length 0 K [] (by omega) (by simp) (by omega)
  simpa using this
theorem back_loop (K : Nat) (l : List (Int × ByteArray)) (hl : l.length ≤ 1000000) (ht : ∀ d ∈ l, -1 ≤ d.1 ∧ d.1 ≤ 1) : ∀ (d i k : Nat) (acc : List TS1.den), i + d = l.length → acc.length = i → 2 * d + 1 ≤ k →
    back_l0 K k acc l (l.length : Int) (i : Int) = some (acc ++ l.drop i)
  | 0, i, k, acc, h, ha, hk => by
    obtain ⟨k, rfl⟩ : ∃ m, k = m + 1 := ⟨k - 1, by omega⟩
    rw [back_l0_eq]
    simp (disch := omega) only [chk_le, chk_lt, chk_eq, chk_nle, chk_neq, br_lt, br_ge, br_le, br_gt, br_eq, br_ne, br_not, br_true, br_false, br_and, wrap_id, Option.bind_some, List.length_set, List.length_append, List.length_cons, List.length_nil, List.length_take, List.length_drop]
    rw [List.drop_eq_nil_of_le (by omega), List.append_nil]
  | d + 1, i, k, acc, h, ha, hk => by
    obtain ⟨k, rfl⟩ : ∃ m, k = m + 1 := ⟨k - 1, by omega⟩
    obtain ⟨k, rfl⟩ : ∃ m, k = m + 1 := ⟨k - 1, by omega⟩
    have hty := ht (l[i]'(by omega)) (List.getElem_mem _)
    rw [back_l0_eq]
    simp (disch := omega) only [chk_le, chk_lt, chk_eq, chk_nle, chk_neq, br_lt, br_ge, br_le, br_gt, br_eq, br_ne, br_not, br_true, br_false, br_and, wrap_id, Option.bind_some, List.length_set, List.length_append, List.length_cons, List.length_nil, List.length_take, List.length_drop]
    rw [back_j0_eq]
    simp (disch := omega) only [chk_le, chk_lt, chk_eq, chk_nle, chk_neq, br_lt, br_ge, br_le, br_gt, br_eq, br_ne, br_not, br_true, br_false, br_and, wrap_id, Option.bind_some, List.length_set, List.length_append, List.length_cons, List.length_nil, List.length_take, List.length_drop]
    rw [show (i : Int) + 1 = ((i + 1 : Nat) : Int) by omega, nth_at TS0 l i (by omega)]
    rw [wrap_id (by omega) (by omega), back_loop K l hl ht d (i + 1) k _ (by omega) (by simp; omega) (by omega), List.drop_eq_getElem_cons (i := i) (by omega), List.append_assoc]
    rfl
theorem back_ok (K : Nat) (l : List (Int × ByteArray)) (hl : l.length ≤ 1000000) (ht : ∀ d ∈ l, -1 ≤ d.1 ∧ d.1 ≤ 1) (hK : 2 * l.length + 2 ≤ K) : back K l = some l := by
  obtain ⟨K, rfl⟩ : ∃ m, K = m + 1 := ⟨K - 1, by omega⟩
  rw [back_eq]
  have := back_loop K l hl ht l.length 0 K [] (by omega) rfl (by omega)
  simpa using this
/-! ### the tokens -/
def tokO (d : Int × ByteArray) : List UInt8 := (tokU d).flatMap outB
theorem no9_fin : ∀ n : Fin 256, (specD (UInt8.ofNat n.val)).all (fun c => decide (c ≠ 9)) = true := by decide +kernel
theorem tokO_no9 (d : Int × ByteArray) (hn : (runesI d.2).length < 1000) : (9 : UInt8) ∉ tokO d := by
  intro hx
  unfold tokO at hx
  rw [(tokU_bytes d).2] at hx
  rcases List.mem_cons.1 hx with h | h
  · rcases opB_cases d.1 with e | e | e <;> (rw [e] at h; revert h; decide)
  · split at h
    · obtain ⟨c, _, hc⟩ := List.mem_flatMap.1 h
      have := no9_fin ⟨c.toNat, c.toNat_lt⟩
      simp only [UInt8.ofNat_toNat] at this
      exact of_decide_eq_true (List.all_eq_true.1 this 9 hc) rfl
    · have := (itoa2_digit _ hn).1 9 h
      revert this
      decide
theorem units_join : ∀ l : List (Int × ByteArray), (unitsJ l).flatMap outB = joinB 9 (l.map tokO)
  | [] => rfl
  | [d] => rfl
  | d :: e :: r => by
    have ih := units_join (e :: r)
    show (tokU d ++ (false, 9) :: unitsJ (e :: r)).flatMap outB = tokO d ++ 9 :: joinB 9 (List.map tokO (e :: r))
    rw [List.flatMap_append, List.flatMap_cons, ih]
    rfl
theorem e61 (c : UInt8) : eqI (c.toNat : Int) 61 = decide (c = 61) := u8e c 61 (by omega)
theorem e45 (c : UInt8) : eqI (c.toNat : Int) 45 = decide (c = 45) := u8e c 45 (by omega)
theorem fd_loop (K : Nat) (hK : 3000 ≤ K) (x1 : ByteArray) (l : List (Int × ByteArray)) (hl : l.length ≤ 1000) (hg : ∀ d ∈ l, d.2.size ≤ 200 ∧ -1 ≤ d.1 ∧ d.1 ≤ 1 ∧ Vt d.2) (hR : (sideR l).length ≤ 100000) :
    ∀ (rest pre : List (Int × ByteArray)) (k : Nat), pre ++ rest = l → 8 * rest.length + 3 ≤ k →
    DiffFromDelta_l0 K k x1 pre ((sideR pre).length : Int) (sideR l) (l.map fun d => (⟨(tokO d).toArray⟩ : ByteArray)) (l.length : Int) (pre.length : Int) = some (l, ())
  | [], pre, k, h, hk => by
    obtain ⟨k, rfl⟩ : ∃ m, k = m + 1 + 1 := ⟨k - 2, by simp at hk; omega⟩
    rw [List.append_nil] at h
    subst h
    rw [DiffFromDelta_l0_eq, br_ge (by omega), DiffFromDelta_j1_eq, br_not, br_eq rfl]
  | d :: rest, pre, k, h, hk => by
    rw [List.length_cons] at hk
    have hmem : d ∈ l := by rw [← h]; simp
    obtain ⟨h1, h2, h3, h4⟩ := hg d hmem
    have hlen : pre.length + 1 + rest.length = l.length := by rw [← h, List.length_append, List.length_cons]; omega
    have hp : pre.length < l.length := by omega
    have hgl : l[pre.length] = d := by
      simp only [← h]
      rw [List.getElem_append_right (Nat.le_refl _)]
      simp
    have hn : nth .str (l.map fun d => (⟨(tokO d).toArray⟩ : ByteArray)) (pre.length : Int) = ⟨(tokO d).toArray⟩ := by
      have := nth_at .str (l.map fun d => (⟨(tokO d).toArray⟩ : ByteArray)) pre.length (by rw [List.length_map]; exact hp)
      rw [this, List.getElem_map, hgl]
    have hrl := runesI_le d.2
    have hlT : (l.map fun d => (⟨(tokO d).toArray⟩ : ByteArray)).length = l.length := List.length_map ..
    obtain ⟨rs, hrs⟩ : ∃ rs, rs = (if d.1 = 1 then (B d.2).flatMap specD else itoa2 (runesI d.2).length) := ⟨_, rfl⟩
    have hb : tokO d = opB d.1 :: rs := by rw [hrs]; exact (tokU_bytes d).2
    have htl := (tok_len d h1).2
    have htl' : rs.length + 1 ≤ 610 := by
      have : (tokO d).length ≤ 610 := htl
      rw [hb, List.length_cons] at this
      exact this
    have sR : sideR l = sideR pre ++ ((if d.1 = 1 then [] else runesI d.2) ++ sideR rest) := by
      rw [← h]
      unfold sideR
      rw [List.flatMap_append, List.flatMap_cons]
    have sP : sideR (pre ++ [d]) = sideR pre ++ (if d.1 = 1 then [] else runesI d.2) := by
      unfold sideR
      rw [List.flatMap_append, List.flatMap_cons, List.flatMap_nil, List.append_nil]
    have next : ∀ (k : Nat) (i : Int) (acc : List TS0.den), acc = pre ++ [d] → i = ((sideR (pre ++ [d])).length : Int) → 8 * rest.length + 3 ≤ k →
        DiffFromDelta_l0 K k x1 acc i (sideR l) (l.map fun d => (⟨(tokO d).toArray⟩ : ByteArray)) (l.length : Int) (IntKind.i64.wrap ((pre.length : Int) + 1)) = some (l, ()) := by
      rintro k i acc rfl rfl hk
      rw [wrap_id (by omega) (by omega), show (pre.length : Int) + 1 = (((pre ++ [d]).length : Nat) : Int) by rw [List.length_append]; simp]
      exact fd_loop K hK x1 l hl hg hR rest (pre ++ [d]) k (by rw [← h]; simp) hk
    have sz : ((ByteArray.size (⟨(tokO d).toArray⟩ : ByteArray) : Nat) : Int) = (rs.length : Int) + 1 := by
      rw [mk_size, hb, List.length_cons]
      omega
    have hext : ByteArray.extract (⟨(tokO d).toArray⟩ : ByteArray) (Int.toNat 1) (Int.toNat ((rs.length : Int) + 1)) = ⟨rs.toArray⟩ := B_inj (by
      rw [B_extract, B_mk, B_mk, hb, show Int.toNat ((rs.length : Int) + 1) - Int.toNat 1 = rs.length by omega]
      show (List.drop 1 (opB d.1 :: rs)).take rs.length = rs
      rw [List.drop_succ_cons, List.drop_zero, List.take_of_length_le (Nat.le_refl _)])
    have hbt : bt (⟨(tokO d).toArray⟩ : ByteArray) 0 = (((opB d.1).toNat : Nat) : Int) := by
      have := bt_at (⟨(tokO d).toArray⟩ : ByteArray) 0 (by rw [mk_size, hb]; simp)
      have e : (B (⟨(tokO d).toArray⟩ : ByteArray))[0]'(by rw [B_mk, hb]; simp) = opB d.1 := by
        simp only [B_mk, hb]
        rfl
      rw [e] at this
      exact this
    obtain ⟨k, rfl⟩ : ∃ m, k = m + 1 + 1 + 1 + 1 + 1 + 1 + 1 := ⟨k - 7, by omega⟩
    rw [DiffFromDelta_l0_eq, br_lt (by omega), DiffFromDelta_j0_eq, chk_le (by omega), chk_lt (by rw [hlT]; omega), hn, sz, br_ne (by omega), DiffFromDelta_j2_eq, sz, chk_le (by omega), chk_le (by omega), chk_le (by omega), chk_le (by omega), chk_lt (by omega), hbt, hext, e43, e61, e45]
    by_cases c1 : d.1 = 1
    · have ho : opB d.1 = 43 := by rw [c1]; rfl
      rw [if_pos c1] at hrs sP
      have e1 : B (⟨rs.toArray⟩ : ByteArray) = (B d.2).flatMap specD := hrs
      have hsr := flat_len specR_len (B d.2)
      have hB := B_size d.2
      have e2 : ((⟨(B d.2).toArray⟩ : ByteArray)) = d.2 := mk_B d.2
      have e3 : ValidString K d.2 = some true := by
        obtain ⟨K', rfl⟩ : ∃ m, K = m + 1 := ⟨K - 1, by omega⟩
        show validE d.2 = some true
        unfold validE
        rw [if_pos (by omega)]
        exact congrArg some h4
      rw [ho, br_dec, if_pos rfl, rep_ok K _ 43 _ (by decide) (by rw [mk_size]; omega) (by rw [mk_size]; omega), e1, Option.bind_some]
      have e4 := specR_all (B d.2)
      rw [show B ⟨#[37, 50, 98]⟩ = [37, 50, 98] from rfl, e4, read_ok K (B d.2) (by omega) (by omega), Option.bind_some]
      show DiffFromDelta_j3 K _ x1 pre _ _ (⟨(B d.2).toArray⟩ : ByteArray) _ _ _ = _
      have hpl : (pre.length : Int) + 1 < 1000000000000 := by omega
      rw [e2, DiffFromDelta_j3_eq, e3, Option.bind_some, Bool.not_true, br_false, DiffFromDelta_j5_eq]
      exact (chk_lt hpl).trans (next _ _ _ (by rw [← c1]) (by rw [sP, List.append_nil]) (by omega))
    · rw [if_neg c1] at hrs sP sR
      have hpar : ParseInt K ⟨rs.toArray⟩ 10 0 = some (((runesI d.2).length : Int), ()) := by
        obtain ⟨K', rfl⟩ : ∃ m, K = m + 1 := ⟨K - 1, by omega⟩
        rw [hrs]
        exact parse_ok _ (by omega)
      have hsum : (sideR pre).length + (runesI d.2).length ≤ (sideR l).length := by rw [sR, List.length_append, List.length_append]; omega
      have hcut : List.take (Int.toNat (((sideR pre).length : Int) + ((runesI d.2).length : Int)) - Int.toNat (((sideR pre).length : Int) + ((runesI d.2).length : Int) - ((runesI d.2).length : Int))) (List.drop (Int.toNat (((sideR pre).length : Int) + ((runesI d.2).length : Int) - ((runesI d.2).length : Int))) (sideR l)) = runesI d.2 := by
        rw [show Int.toNat (((sideR pre).length : Int) + ((runesI d.2).length : Int) - ((runesI d.2).length : Int)) = (sideR pre).length by omega, show Int.toNat (((sideR pre).length : Int) + ((runesI d.2).length : Int)) - (sideR pre).length = (runesI d.2).length by omega, sR, List.drop_left' rfl, List.take_left' rfl]
      have hpl : (pre.length : Int) + 1 < 1000000000000 := by omega
      have j4 : ∀ (o : UInt8) (x11 : ByteArray), (o = 61 → d.1 = 0) → (o ≠ 61 → d.1 = -1) → DiffFromDelta_j4 K (k + 1 + 1 + 1 + 1) x1 pre ((sideR pre).length : Int) (sideR l) x11 ⟨rs.toArray⟩ ((o.toNat : Nat) : Int) (l.map fun d => (⟨(tokO d).toArray⟩ : ByteArray)) (l.length : Int) (pre.length : Int) true = some (l, ()) := by
        intro o x11 ho1 ho2
        rw [DiffFromDelta_j4_eq, br_true, hpar, Option.bind_some, br_ge (by omega), DiffFromDelta_j6_eq, wrap_id (by omega) (by omega), br_ge (by omega), DiffFromDelta_j7_eq, wrap_id (by omega) (by omega), chk_le (by omega), chk_le (by omega), chk_le (by omega), hcut, h4.back, e61, br_dec]
        have hi : ((sideR pre).length : Int) + ((runesI d.2).length : Int) = ((sideR (pre ++ [d])).length : Int) := by rw [sP, List.length_append]; omega
        split
        · rename_i c
          exact (chk_lt hpl).trans (next _ _ _ (by rw [← ho1 c]) hi (by omega))
        · rename_i c
          exact (chk_lt hpl).trans (next _ _ _ (by rw [← ho2 c]) hi (by omega))
      by_cases c2 : d.1 = -1
      · have ho : opB d.1 = 45 := by rw [c2]; rfl
        rw [ho, br_dec, if_neg (by decide), br_dec, if_neg (by decide), decide_eq_true rfl]
        exact j4 45 _ (fun h => absurd h (by decide)) (fun _ => c2)
      · have c3 : d.1 = 0 := (by omega : ∀ x : Int, -1 ≤ x → x ≤ 1 → ¬ x = 1 → ¬ x = -1 → x = 0) _ h2 h3 c1 c2
        have ho : opB d.1 = 61 := by rw [c3]; rfl
        rw [ho, br_dec, if_neg (by decide), br_dec, if_pos rfl, decide_eq_true rfl]
        exact j4 61 _ (fun _ => c3) (fun h => absurd rfl h)
end Go.Proofs.YtfefjbifdbfmjaaDoor.E
