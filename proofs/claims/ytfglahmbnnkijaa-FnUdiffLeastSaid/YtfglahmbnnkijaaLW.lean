import Derived.Test.YtfglahmbnnkijaaLV
/- The edits from a text to another one: what is found. -/
set_option linter.unusedVariables false
set_option linter.unusedSimpArgs false
namespace Go.Proofs.Ytfglahmbnnkijaa.E
open Go.Ev Go.Lcs
/-- What is found: differences as edits. -/
def Found (la lb : List Int) (D : List Sp) : Prop := Ld (EM (Eqs la lb) la.length lb.length) D 0 0 la.length lb.length ∧ ∀ s, Dist (EM (Eqs la lb) la.length lb.length) la.length lb.length s → s ≤ 99 → ssum D = s
theorem found_ne {la lb : List Int} {D : List Sp} (h : Found la lb D) (hne : la ≠ lb) : D ≠ [] := by
  rintro rfl
  obtain ⟨⟨h1, h2, h3⟩, _⟩ := h
  apply hne
  have := same_part (Int.le_refl 0) (Int.le_refl 0) (n := la.length - 0) (by omega) h3
  have e1 : (la.drop (Int.toNat 0)).take (la.length - 0 : Int).toNat = la := by
    rw [show Int.toNat 0 = 0 from rfl, List.drop_zero, List.take_of_length_le (by omega)]
  have e2 : (lb.drop (Int.toNat 0)).take (la.length - 0 : Int).toNat = lb := by
    rw [show Int.toNat 0 = 0 from rfl, List.drop_zero, List.take_of_length_le (by omega)]
  rw [e1, e2] at this
  exact this
theorem found_len {la lb : List Int} {D : List Sp} (h : Found la lb D) (ha : la.length ≤ 1000) (hb : lb.length ≤ 1000) : D.length ≤ 2000 := by
  have := (ld_bound D 0 0 h.1).2
  omega
theorem diffASCII_ok (K : Nat) {h : Hp} {ra rb : Rf} {la lb : List Int} (hf : FreeH h) (hra : RdOk h (.int .u8) ra la) (hrb : RdOk h (.int .u8) rb lb) (lowA : Low la) (lowB : Low lb) (ha : la.length ≤ 1000) (hlb : lb.length ≤ 1000) (hne : la ≠ lb) (hK : 90000000 ≤ K) :
    ∃ h' r D, diffASCII K h ra rb = some (h', r) ∧ SlL h' 74 TS1 r (D.map (edR la lb)) ∧ KeepH h h' ∧ FreeH h' ∧ Found la lb D := by
  obtain ⟨K, rfl⟩ : ∃ m, K = m + 1 := ⟨K - 1, by omega⟩
  obtain ⟨h1, D, a1, a2, a3, a4⟩ := diffBytes_ok K hf hra hrb ha hlb (by omega)
  have fd : Found la lb D := a4
  have hlen := found_len fd ha hlb
  have hN : HO (Hp.new h1 74 (.p TS1) (List.replicate D.length zE)) 74 TS1 h1.nx (List.replicate D.length zE) := HO.new h1 74 TS1 _
  have k1 : KeepH h1 (Hp.new h1 74 (.p TS1) (List.replicate D.length zE)) := (KeepH.refl h1).push _
  have f1 : FreeH (Hp.new h1 74 (.p TS1) (List.replicate D.length zE)) := a3.push _
  obtain ⟨h2, b1, b2, b3, b4, b5⟩ := asc_loop K (hrb.mono a2) lowA lowB ha hlb D (by omega) h1.nx (Nat.le_refl _) D [] 0 0 _ K rfl (Int.le_refl 0) (Int.le_refl 0) fd.1 k1 f1 (Nat.lt_succ_self _) hN (by omega)
  refine ⟨h2, .at h1.nx 0 D.length, D, ?_, .inr ⟨?_, h1.nx, b5, by rw [List.length_map], b2⟩, a2.trans b3, b4, fd⟩
  · rw [diffASCII_eq, a1, obs]
    show chk _ (chk _ (chk _ (diffASCII_l0 K K rb (.at h1.nx 0 (Int.toNat (D.length : Int))) D (D.length : Int) 0 (Hp.new h1 74 (.p TS1) (List.replicate (Int.toNat (D.length : Int)) zE))))) = _
    rw [Int.toNat_natCast, chk_le (by show (0 : Int) ≤ (D.length : Int); omega), chk_le (by show (D.length : Int) ≤ (D.length : Int); omega), chk_lt (by show (D.length : Int) < _; omega)]
    exact b1
  · intro hc
    exact found_ne fd hne (List.map_eq_nil_iff.1 hc)
theorem diffRunes2_ok (K : Nat) {h : Hp} {ra rb : Rf} {la lb : List Int} (hf : FreeH h) (hra : RdOk h (.int .i32) ra la) (hrb : RdOk h (.int .i32) rb lb) (okA : Okl la) (ha : la.length ≤ 1000) (hlb : lb.length ≤ 1000) (hne : la ≠ lb) (hK : 90000000 ≤ K) :
    ∃ h' r D, diffRunes K h ra rb = some (h', r) ∧ SlL h' 74 TS1 r (D.map (edR la lb)) ∧ KeepH h h' ∧ FreeH h' ∧ Found la lb D := by
  obtain ⟨K, rfl⟩ : ∃ m, K = m + 1 := ⟨K - 1, by omega⟩
  obtain ⟨h1, D, a1, a2, a3, a4⟩ := diffRunes_ok K hf hra hrb ha hlb (by omega)
  have fd : Found la lb D := a4
  have hlen := found_len fd ha hlb
  have hN : HO (Hp.new h1 74 (.p TS1) (List.replicate D.length zE)) 74 TS1 h1.nx (List.replicate D.length zE) := HO.new h1 74 TS1 _
  have k1 : KeepH h1 (Hp.new h1 74 (.p TS1) (List.replicate D.length zE)) := (KeepH.refl h1).push _
  have f1 : FreeH (Hp.new h1 74 (.p TS1) (List.replicate D.length zE)) := a3.push _
  obtain ⟨h2, b1, b2, b3, b4, b5⟩ := rune_loop K (hra.mono a2) (hrb.mono a2) okA ha hlb D (by omega) h1.nx (Nat.le_refl _) (by omega) D [] 0 0 _ K rfl (Int.le_refl 0) (Int.le_refl 0) fd.1 k1 f1 (Nat.lt_succ_self _) hN (by omega)
  refine ⟨h2, .at h1.nx 0 D.length, D, ?_, .inr ⟨?_, h1.nx, b5, by rw [List.length_map], b2⟩, a2.trans b3, b4, fd⟩
  · rw [diffRunes_eq, a1, obs]
    show chk _ (chk _ (chk _ (diffRunes_l0 K K ra rb (.at h1.nx 0 (Int.toNat (D.length : Int))) 0 0 D (D.length : Int) 0 (Hp.new h1 74 (.p TS1) (List.replicate (Int.toNat (D.length : Int)) zE))))) = _
    rw [Int.toNat_natCast, chk_le (by show (0 : Int) ≤ (D.length : Int); omega), chk_le (by show (D.length : Int) ≤ (D.length : Int); omega), chk_lt (by show (D.length : Int) < _; omega)]
    exact b1
  · intro hc
    exact found_ne fd hne (List.map_eq_nil_iff.1 hc)
theorem Strings_ok (K : Nat) {h : Hp} (a b : ByteArray) (hf : FreeH h) (va : Vt a) (vb : Vt b) (sa : a.size ≤ 200) (sb : b.size ≤ 200) (hne : a ≠ b) (hK : 100000000 ≤ K) :
    ∃ h' r D, Strings K h a b = some (h', r) ∧ SlL h' 74 TS1 r (D.map (edR (runesI a) (runesI b))) ∧ KeepH h h' ∧ FreeH h' ∧ Found (runesI a) (runesI b) D := by
  obtain ⟨K, rfl⟩ : ∃ q, K = q + 4 := ⟨K - 4, by omega⟩
  have la := runesI_le a
  have lb := runesI_le b
  have hne' : runesI a ≠ runesI b := fun e => hne (runesI_inj va vb e)
  have slow : ∃ h' r D, Strings_j1 (K + 3) (K + 2) a b false h = some (h', r) ∧ SlL h' 74 TS1 r (D.map (edR (runesI a) (runesI b))) ∧ KeepH h h' ∧ FreeH h' ∧ Found (runesI a) (runesI b) D := by
    have k1 : KeepH h (Hp.new h 21 (.p (.int .i32)) (runesI a)) := (KeepH.refl h).push _
    have k2 : KeepH (Hp.new h 21 (.p (.int .i32)) (runesI a)) (Hp.new (Hp.new h 21 (.p (.int .i32)) (runesI a)) 21 (.p (.int .i32)) (runesI b)) := (KeepH.refl _).push _
    have f2 : FreeH (Hp.new (Hp.new h 21 (.p (.int .i32)) (runesI a)) 21 (.p (.int .i32)) (runesI b)) := (hf.push _).push _
    have r1 := (rdok_i32 (new_i32 h (runesI a)) (Nat.lt_succ_self _)).mono k2
    have r2 := rdok_i32 (new_i32 (Hp.new h 21 (.p (.int .i32)) (runesI a)) (runesI b)) (Nat.lt_succ_self _)
    obtain ⟨h', r, D, c1, c2, c3, c4, c5⟩ := diffRunes2_ok (K + 3) f2 r1 r2 va.okl (by omega) (by omega) hne' (by omega)
    refine ⟨h', r, D, ?_, c2, (k1.trans k2).trans c3, c4, c5⟩
    rw [Strings_j1_eq, br_false, Strings_j2_eq, chk_nle (by omega), chk_nle (by omega)]
    show Option.bind (diffRunes (K + 3) (Hp.new (Hp.new h 21 (.p (.int .i32)) (runesI a)) 21 (.p (.int .i32)) (runesI b)) (.at h.nx 0 (runesI a).length) (.at (Hp.new h 21 (.p (.int .i32)) (runesI a)).nx 0 (runesI b).length)) _ = _
    rw [c1, obs]
  rw [Strings_eq, eqS_iff, decide_eq_false hne, br_false, Strings_j0_eq]
  obtain ⟨ca, i1, i2⟩ := isASCII_ok (K + 3) a (by omega) (by omega)
  rw [i1, obs]
  cases ca with
  | false => rw [br_false]; exact slow
  | true =>
    obtain ⟨cb, i3, i4⟩ := isASCII_ok (K + 3) b (by omega) (by omega)
    rw [br_true, i3, obs]
    cases cb with
    | false => exact slow
    | true =>
      have aA := i2 rfl
      have aB := i4 rfl
      have k1 : KeepH h (h.push (.ro (roBytes a))) := (KeepH.refl h).push _
      have k2 : KeepH (h.push (.ro (roBytes a))) ((h.push (.ro (roBytes a))).push (.ro (roBytes b))) := (KeepH.refl _).push _
      have f2 : FreeH ((h.push (.ro (roBytes a))).push (.ro (roBytes b))) := (hf.push _).push _
      have r1 := (rdok_ro (s := a) (h := h.push (.ro (roBytes a))) (n := h.nx) (by rw [push_ob, if_pos rfl]) (Nat.lt_succ_self _)).mono k2
      have r2 := rdok_ro (s := b) (h := (h.push (.ro (roBytes a))).push (.ro (roBytes b))) (n := (h.push (.ro (roBytes a))).nx) (by rw [push_ob, if_pos rfl]) (Nat.lt_succ_self _)
      obtain ⟨h', r, D, c1, c2, c3, c4, c5⟩ := diffASCII_ok (K + 3) f2 r1 r2 (asc_low aA) (asc_low aB) (by rw [bytesI_len]; omega) (by rw [bytesI_len]; omega) (by rw [← asc_runes aA, ← asc_runes aB]; exact hne') (by omega)
      rw [← asc_runes aA, ← asc_runes aB] at c2 c5
      refine ⟨h', r, D, ?_, c2, (k1.trans k2).trans c3, c4, c5⟩
      rw [Strings_j1_eq, br_true]
      show Option.bind (diffASCII (K + 3) ((h.push (.ro (roBytes a))).push (.ro (roBytes b))) (.at h.nx 0 a.size) (.at (h.push (.ro (roBytes a))).nx 0 b.size)) _ = _
      rw [c1, obs]
theorem EditStrings_ok (K : Nat) (a b : ByteArray) (va : Vt a) (vb : Vt b) (sa : a.size ≤ 200) (sb : b.size ≤ 200) (hne : a ≠ b) (hK : 110000000 ≤ K) : ∃ D, EditStrings K a b = some (D.map (edR (runesI a) (runesI b))) ∧ Found (runesI a) (runesI b) D := by
  obtain ⟨K, rfl⟩ : ∃ m, K = m + 1 := ⟨K - 1, by omega⟩
  have la := runesI_le a
  have lb := runesI_le b
  obtain ⟨h', r, D, c1, c2, c3, c4, c5⟩ := Strings_ok K (h := Hp.empty) a b FreeH.empty va vb sa sb hne (by omega)
  have hlen := found_len c5 (by omega) (by omega)
  refine ⟨D, ?_, c5⟩
  rw [EditStrings_eq, c1, obs]
  show Option.bind (backEdits K h' r) _ = _
  rw [backEdits_ok K h' r _ c2 (by rw [List.length_map]; omega) (by rw [List.length_map]; omega), obs]
theorem EditStrings_same (K : Nat) (a : ByteArray) (hK : 10 ≤ K) : EditStrings K a a = some [] := by
  obtain ⟨K, rfl⟩ : ∃ q, K = q + 3 := ⟨K - 3, by omega⟩
  rw [EditStrings_eq, Strings_eq, eqS_iff, decide_eq_true rfl, br_true, obs]
  show Option.bind (backEdits (K + 2) Hp.empty .nil) _ = _
  rw [backEdits_ok (K + 2) Hp.empty .nil [] (.inl ⟨rfl, rfl⟩) (Nat.zero_le _) (by simp only [List.length_nil]; omega), obs]
theorem new_size (lb : List Int) (i j : Nat) : (strOfRunes ((lb.drop i).take j)).size ≤ (strOfRunes lb).size := by
  rw [strOfRunes_size, strOfRunes_size]
  have e : lb = lb.take i ++ ((lb.drop i).take j ++ (lb.drop i).drop j) := by rw [List.take_append_drop, List.take_append_drop]
  conv => rhs; rw [e]
  rw [encs8_append, encs8_append, List.length_append, List.length_append]
  omega
end Go.Proofs.Ytfglahmbnnkijaa.E
