import Derived.Test.YtaabfadjemmibaaDoorVP
/- An edit of a word and a blank between two words becomes one and the same, whether the blank stands ahead of the word or behind it. -/
set_option linter.unusedVariables false
set_option linter.unusedSimpArgs false
namespace Go.Proofs.YtaabfadjemmibaaDoor.E
open Go.Ev
theorem low_str (s : ByteArray) (h : ∀ j, j < s.size → 97 ≤ bt s (j : Int) ∧ bt s (j : Int) ≤ 122) : ∃ x, s = strOfRunes x ∧ Low x ∧ x.length = s.size := by
  have key : ∀ b ∈ B s, 97 ≤ b.toNat ∧ b.toNat ≤ 122 := by
    intro b hb
    obtain ⟨j, hj, rfl⟩ := List.mem_iff_getElem.1 hb
    have hj' : j < s.size := by rw [← B_size]; exact hj
    have := h j hj'
    unfold bt at this
    rw [dif_pos (by rw [Int.toNat_natCast]; exact hj')] at this
    have e : s[((j : Int)).toNat]'(by rw [Int.toNat_natCast]; exact hj') = (B s)[j] := rfl
    rw [e] at this
    omega
  have hlow : Low ((B s).map fun b => (b.toNat : Int)) := by
    intro r hr
    obtain ⟨b, hb, rfl⟩ := List.mem_map.1 hr
    have := key b hb
    omega
  refine ⟨_, ?_, hlow, by rw [List.length_map, B_size]⟩
  apply B_inj
  rw [B_asc hlow.asc, List.map_map]
  have : ∀ l : List UInt8, l = l.map ((fun r : Int => UInt8.ofNat r.toNat) ∘ fun b : UInt8 => (b.toNat : Int)) := by
    intro l
    induction l with
    | nil => rfl
    | cons b l ih =>
      rw [List.map_cons, ← ih]
      simp
  exact this (B s)
theorem word_loop (K : Nat) (s : ByteArray) (hs : s.size ≤ 2147483647) : ∀ (d i k : Nat), i + d = 13 → i ≤ s.size → (∀ j, j < i → 97 ≤ bt s (j : Int) ∧ bt s (j : Int) ≤ 122) → 3 * d + 3 ≤ k →
    ∃ b, cleanWord_l0 K k s (i : Int) = some b ∧ (b = true → (1 ≤ s.size ∧ s.size ≤ 12 ∧ ∀ j, j < s.size → 97 ≤ bt s (j : Int) ∧ bt s (j : Int) ≤ 122))
  | d, i, k, hd, hi, hb, hk => by
    obtain ⟨k, rfl⟩ : ∃ m, k = m + 3 := ⟨k - 3, by omega⟩
    have j1 : ∀ k', (s.size ≤ 12 → i = s.size) → ∃ b, cleanWord_j1 K (k' + 1) s = some b ∧ (b = true → (1 ≤ s.size ∧ s.size ≤ 12 ∧ ∀ j, j < s.size → 97 ≤ bt s (j : Int) ∧ bt s (j : Int) ≤ 122)) := by
      intro k' he
      rw [cleanWord_j1_eq]
      by_cases h0 : 0 < s.size
      · rw [br_lt (by omega)]
        refine ⟨_, rfl, fun hb' => ?_⟩
        rw [leI_eq] at hb'
        have := of_decide_eq_true hb'
        exact ⟨h0, by omega, fun j hj => hb j (by have := he (by omega); omega)⟩
      · rw [br_ge (by omega)]
        exact ⟨_, rfl, fun h => by cases h⟩
    rw [cleanWord_l0_eq]
    by_cases h1 : i < s.size
    · rw [br_lt (by omega)]
      by_cases h2 : i < 13
      · rw [br_lt (by omega), cleanWord_j0_eq, chk_le (by omega), chk_lt (by omega)]
        obtain ⟨d, rfl⟩ : ∃ z, d = z + 1 := ⟨d - 1, by omega⟩
        by_cases c1 : bt s (i : Int) < 97
        · rw [br_lt c1, cleanWord_j2_eq, br_true]
          exact ⟨_, rfl, fun h => by cases h⟩
        · rw [br_ge (by omega), chk_le (by omega), chk_lt (by omega)]
          by_cases c2 : 122 < bt s (i : Int)
          · rw [show ltI 122 (bt s (i : Int)) = true by rw [ltI_eq]; exact decide_eq_true c2, cleanWord_j2_eq, br_true]
            exact ⟨_, rfl, fun h => by cases h⟩
          · rw [show ltI 122 (bt s (i : Int)) = false by rw [ltI_eq]; exact decide_eq_false c2, cleanWord_j2_eq, br_false, wrap_id (by omega) (by omega)]
            refine word_loop K s hs d (i + 1) k (by omega) (by omega) (fun j hj => ?_) (by omega)
            by_cases e : j = i
            · subst e; exact ⟨by omega, by omega⟩
            · exact hb j (by omega)
      · rw [br_ge (by omega)]
        exact j1 (k + 1) (fun h => by omega)
    · rw [br_ge (by omega)]
      exact j1 (k + 1) (fun h => by omega)
theorem word_ok (K : Nat) (s : ByteArray) (hs : s.size ≤ 2147483647) (hK : 60 ≤ K) : ∃ b, cleanWord K s = some b ∧ (b = true → ∃ x, s = strOfRunes x ∧ Low x ∧ x ≠ [] ∧ x.length ≤ 12) := by
  obtain ⟨K, rfl⟩ : ∃ m, K = m + 1 := ⟨K - 1, by omega⟩
  rw [cleanWord_eq]
  obtain ⟨b, h1, h2⟩ := word_loop K s hs 13 0 K (by omega) (by omega) (fun j hj => by omega) (by omega)
  refine ⟨b, h1, fun hb => ?_⟩
  obtain ⟨g1, g2, g3⟩ := h2 hb
  obtain ⟨x, e1, e2, e3⟩ := low_str s g3
  exact ⟨x, e1, e2, fun h => by rw [h] at e3; simp at e3; omega, by omega⟩
theorem CleanLossless_ok (K : Nat) (L L' : List M) (tL : Typed L) (tL' : Typed L') (lL : L.length ≤ 100) (lL' : L'.length ≤ 100) (h : ∀ X K, 100 ≤ K → DiffCleanupSemanticLossless K X (enc L) = some (enc L')) (hK : 1000 ≤ K) : CleanLossless K (enc L) = some (enc L') := by
  obtain ⟨K, rfl⟩ : ∃ m, K = m + 1 := ⟨K - 1, by omega⟩
  obtain ⟨X, hX⟩ := plain_ok K (by omega)
  rw [CleanLossless_eq, hX, Option.bind_some, diffs_ok K L (by omega) tL (by omega), Option.bind_some, h X K (by omega), Option.bind_some, back_ok K L' (by omega) tL' (by omega)]
  rfl
theorem word_j6 (K k : Nat) (hK : 3000 ≤ K) (aw : cleanAwake K = some true) (o w u : List Int) (t : Int) (ht : t = 1 ∨ t = -1) (ho : Low o) (hw : Low w) (hu : Low u) (no : o ≠ []) (nw : w ≠ []) (nu : u ≠ []) (lo : o.length ≤ 12) (lw : w.length ≤ 12) (lu : u.length ≤ 12) (hd : w.head? ≠ u.head?) (hl : o.getLast? ≠ w.getLast?) :
    FnLosslessWord_j6 K (k + 1) (strOfRunes o) (strOfRunes w) (strOfRunes u) t = some true := by
  have hsp : (⟨#[32]⟩ : ByteArray) = strOfRunes [32] := by
    apply B_inj
    rw [B_asc sp_asc]
    rfl
  have tt : t = 0 ∨ t = 1 ∨ t = -1 := .inr ht
  have T3 : ∀ (x y z : List Int), Typed [(0, x), (t, y), (0, z)] := fun x y z => Typed.cons (.inl rfl) (Typed.cons tt (Typed.cons (.inl rfl) Typed.nil))
  have r := fun X K hK => word_less K X t o w u ho hw hu no nw nu lo lw lu hd hl hK
  have c1 := CleanLossless_ok K _ _ (T3 o (32 :: w) (32 :: u)) (T3 (o ++ [32]) (w ++ [32]) u) (by simp) (by simp) (fun X K hK => (r X K hK).1) (by omega)
  have c2 := CleanLossless_ok K _ _ (T3 (o ++ [32]) (w ++ [32]) u) (T3 (o ++ [32]) (w ++ [32]) u) (by simp) (by simp) (fun X K hK => (r X K hK).2) (by omega)
  have c1' : CleanLossless K [(0, strOfRunes o), (t, strOfRunes (32 :: w)), (0, strOfRunes (32 :: u))] = some (enc [(0, o ++ [32]), (t, w ++ [32]), (0, u)]) := c1
  have c2' : CleanLossless K [(0, strOfRunes (o ++ [32])), (t, strOfRunes (w ++ [32])), (0, strOfRunes u)] = some (enc [(0, o ++ [32]), (t, w ++ [32]), (0, u)]) := c2
  have hl3 : (enc [(0, o ++ [32]), (t, w ++ [32]), (0, u)]).length = 3 := rfl
  rw [FnLosslessWord_j6_eq, hsp, app_asc, app_asc, app_asc, app_asc, size_asc sp_asc, size_asc ho.asc, size_asc hw.asc, size_asc hu.asc, chk_nle (by simp; omega), chk_nle (by simp; omega), List.singleton_append, List.singleton_append, c1', Option.bind_some, chk_nle (by simp; omega), chk_nle (by simp; omega), c2', Option.bind_some, aw, Option.bind_some, br_true, cleanOf_ok K _ (by rw [hl3]; omega) (by rw [hl3]; omega), Option.bind_some, Option.bind_some, CleanSame_ok K _ (by rw [hl3]; omega) (by rw [hl3]; omega)]
  rfl
theorem Pure.FnLosslessWord (a b c : ByteArray) (d : Bool) (_h1 : a.size ≤ 9223372036854775807) (_h2 : b.size ≤ 9223372036854775807) (_h3 : c.size ≤ 9223372036854775807) : ∃ k, callF k 5 (a, b, c, d, ()) = some true := by
  obtain ⟨K, hK⟩ : ∃ K, K = 100000 := ⟨_, rfl⟩
  refine ⟨K + 1, ?_⟩
  show E.FnLosslessWord (K + 1) a b c d = some true
  have aw : cleanAwake K = some true := by
    have := awake (K - 60)
    rwa [show K - 60 + 60 = K by omega] at this
  rw [FnLosslessWord_eq]
  by_cases s1 : 2147483647 < a.size
  · obtain ⟨K', rfl⟩ : ∃ m, K = m + 1 := ⟨K - 1, by omega⟩
    rw [br_lt (by omega), FnLosslessWord_j0_eq, br_true]
  · rw [br_ge (by omega)]
    by_cases s2 : 2147483647 < b.size
    · obtain ⟨K', rfl⟩ : ∃ m, K = m + 1 := ⟨K - 1, by omega⟩
      rw [br_lt (by omega), FnLosslessWord_j0_eq, br_true]
    · rw [br_ge (by omega)]
      by_cases s3 : 2147483647 < c.size
      · obtain ⟨K', rfl⟩ : ∃ m, K = m + 1 := ⟨K - 1, by omega⟩
        rw [show ltI 2147483647 (c.size : Int) = true by rw [ltI_eq]; exact decide_eq_true (by omega), FnLosslessWord_j0_eq, br_true]
      · rw [show ltI 2147483647 (c.size : Int) = false by rw [ltI_eq]; exact decide_eq_false (by omega)]
        obtain ⟨b1, g1, w1⟩ := word_ok K a (by omega) (by omega)
        obtain ⟨b2, g2, w2⟩ := word_ok K b (by omega) (by omega)
        obtain ⟨b3, g3, w3⟩ := word_ok K c (by omega) (by omega)
        have hl : ([a, b, c] : List ByteArray).length = 3 := rfl
        have n0 : nth .str [a, b, c] 0 = a := rfl
        have n1 : nth .str [a, b, c] 1 = b := rfl
        have n2 : nth .str [a, b, c] 2 = c := rfl
        have v1 : IntKind.i64.wrap ((0 : Int) + 1) = 1 := by rw [wrap_id (by omega) (by omega)]; rfl
        have v2 : IntKind.i64.wrap ((1 : Int) + 1) = 2 := by rw [wrap_id (by omega) (by omega)]; rfl
        have v3 : IntKind.i64.wrap ((2 : Int) + 1) = 3 := by rw [wrap_id (by omega) (by omega)]; rfl
        obtain ⟨K', hK'⟩ : ∃ m, K = m + 20 := ⟨K - 20, by omega⟩
        rw [show FnLosslessWord_j0 K K a b c d false = FnLosslessWord_j0 K (K' + 20) a b c d false by rw [← hK'], FnLosslessWord_j0_eq, br_false, FnLosslessWord_j1_eq, hl, FnLosslessWord_l0_eq, br_lt (by omega), FnLosslessWord_j2_eq, hl, n0, g1, chk_le (by omega), chk_lt (by omega), Option.bind_some]
        cases b1 with
        | false => rw [Bool.not_false, br_true, aw]; rfl
        | true =>
          rw [Bool.not_true, br_false, v1, FnLosslessWord_l0_eq, br_lt (by omega), FnLosslessWord_j2_eq, hl, n1, g2, chk_le (by omega), chk_lt (by omega), Option.bind_some]
          cases b2 with
          | false => rw [Bool.not_false, br_true, aw]; rfl
          | true =>
            rw [Bool.not_true, br_false, v2, FnLosslessWord_l0_eq, br_lt (by omega), FnLosslessWord_j2_eq, hl, n2, g3, chk_le (by omega), chk_lt (by omega), Option.bind_some]
            cases b3 with
            | false => rw [Bool.not_false, br_true, aw]; rfl
            | true =>
              rw [Bool.not_true, br_false, v3, FnLosslessWord_l0_eq, br_ge (by omega)]
              obtain ⟨o, rfl, ho, no, lo⟩ := w1 rfl
              obtain ⟨w, rfl, hw, nw, lw⟩ := w2 rfl
              obtain ⟨u, rfl, hu, nu, lu⟩ := w3 rfl
              have po := List.length_pos_iff.2 no
              have pw := List.length_pos_iff.2 nw
              have pu := List.length_pos_iff.2 nu
              have q1 : IntKind.i64.wrap ((o.length : Int) - 1) = ((o.length - 1 : Nat) : Int) := by rw [wrap_id (by omega) (by omega)]; omega
              have q2 : IntKind.i64.wrap ((w.length : Int) - 1) = ((w.length - 1 : Nat) : Int) := by rw [wrap_id (by omega) (by omega)]; omega
              rw [FnLosslessWord_j3_eq, size_asc ho.asc, size_asc hw.asc, size_asc hu.asc, q1, q2, bt_asc ho.asc _ (by omega), bt_asc hw.asc _ (by omega), chk_le (by omega), chk_lt (by omega), chk_le (by omega), chk_lt (by omega)]
              have b0 : bt (strOfRunes w) 0 = w[0] := bt_asc hw.asc 0 pw
              have b1' : bt (strOfRunes u) 0 = u[0] := bt_asc hu.asc 0 pu
              rw [b0, b1']
              by_cases hlast : o[o.length - 1]'(by omega) = w[w.length - 1]'(by omega)
              · rw [br_eq hlast, FnLosslessWord_j4_eq, br_true, aw]; rfl
              · rw [br_ne hlast, chk_le (by omega), chk_lt (by omega), chk_le (by omega), chk_lt (by omega)]
                by_cases hhead : w[0] = u[0]
                · rw [eqI_t hhead, FnLosslessWord_j4_eq, br_true, aw]; rfl
                · rw [eqI_f hhead, FnLosslessWord_j4_eq, br_false, FnLosslessWord_j5_eq]
                  have hd : w.head? ≠ u.head? := by
                    rw [List.head?_eq_getElem?, List.head?_eq_getElem?, List.getElem?_eq_getElem pw, List.getElem?_eq_getElem pu]
                    exact fun h => hhead (Option.some.inj h)
                  have hl' : o.getLast? ≠ w.getLast? := by
                    rw [List.getLast?_eq_getElem?, List.getLast?_eq_getElem?, List.getElem?_eq_getElem (by omega), List.getElem?_eq_getElem (by omega)]
                    exact fun h => hlast (Option.some.inj h)
                  cases d with
                  | true => rw [br_true]; exact word_j6 K _ (by omega) aw o w u 1 (.inl rfl) ho hw hu no nw nu lo lw lu hd hl'
                  | false => rw [br_false]; exact word_j6 K _ (by omega) aw o w u (-1) (.inr rfl) ho hw hu no nw nu lo lw lu hd hl'
end Go.Proofs.YtaabfadjemmibaaDoor.E
