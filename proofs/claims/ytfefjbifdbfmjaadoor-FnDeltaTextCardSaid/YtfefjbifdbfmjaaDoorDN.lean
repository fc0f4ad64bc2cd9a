import Derived.Test.YtfefjbifdbfmjaaDoorDM
import Derived.Lib.ParseIntBCases
/- Deltas: numbers, and what a delta tells. -/
set_option linter.unusedVariables false
set_option linter.unusedSimpArgs false
namespace Go.Proofs.YtfefjbifdbfmjaaDoor.E
open Go.Ev
theorem cnt_fin : ∀ n : Fin 256, 48 ≤ n.val → n.val ≤ 57 → IntKind.i64.wrap (IntKind.u8.wrap ((n.val : Int) - 48)) = ((n.val - 48 : Nat) : Int) := by decide +kernel
theorem cnt_loop (K : Nat) (s : ByteArray) (neg : Bool) (hs : s.size ≤ 100000) : ∀ (d i k a : Nat), i + d = s.size → a ≤ 1099511627776 → 4 * d + 3 ≤ k →
    ∃ r, deltaCount_l0 K k s neg (a : Int) (s.size : Int) (i : Int) = some r ∧ (r.2 = true → ∃ m : Nat, r.1 = (if neg then -(m : Int) else (m : Int)) ∧ m ≤ 1099511627776 ∧ (m ≤ 1000000000 → a ≤ m ∧ Go.Lib.parseUintM (2 ^ 64 - 1) a ((B s).drop i) = .ok m))
  | 0, i, k, a, h, ha, hk => by
    obtain ⟨k, rfl⟩ : ∃ m, k = m + 1 := ⟨k - 1, by omega⟩
    obtain ⟨k, rfl⟩ : ∃ m, k = m + 1 := ⟨k - 1, by omega⟩
    refine ⟨((if neg then -(a : Int) else (a : Int)), true), ?_, fun _ => ⟨a, rfl, ha, fun _ => ⟨Nat.le_refl _, ?_⟩⟩⟩
    · rw [deltaCount_l0_eq, br_ge (by omega), deltaCount_j5_eq]
      cases neg
      · rfl
      · rw [br_true, wrap_id (by omega) (by omega), Int.zero_sub]
        rfl
    · rw [List.drop_eq_nil_of_le (by rw [B_size]; omega)]
      rfl
  | d + 1, i, k, a, h, ha, hk => by
    have hsz := B_size s
    have hi : i < (B s).length := by omega
    have hc : (B s).drop i = (B s)[i] :: (B s).drop (i + 1) := List.drop_eq_getElem_cons hi
    obtain ⟨k, rfl⟩ : ∃ m, k = m + 1 + 1 + 1 + 1 := ⟨k - 4, by omega⟩
    have bad : ∃ r : Int × Bool, (some ((0 : Int), false) : Option (Int × Bool)) = some r ∧ (r.2 = true → ∃ m : Nat, r.1 = (if neg then -(m : Int) else (m : Int)) ∧ m ≤ 1099511627776 ∧ (m ≤ 1000000000 → a ≤ m ∧ Go.Lib.parseUintM (2 ^ 64 - 1) a ((B s).drop i) = .ok m)) := ⟨_, rfl, fun h => by cases h⟩
    rw [deltaCount_l0_eq, br_lt (by omega), deltaCount_j4_eq, chk_le (by omega), chk_lt (by omega), bt_at s i (by omega)]
    by_cases c1 : (B s)[i].toNat < 48
    · rw [br_lt (by omega), deltaCount_j6_eq, br_true]
      exact bad
    rw [br_ge (by omega), chk_le (by omega), chk_lt (by omega), deltaCount_j6_eq]
    by_cases c2 : 57 < (B s)[i].toNat
    · rw [br_lt (by omega)]
      exact bad
    have hv := cnt_fin ⟨(B s)[i].toNat, (B s)[i].toNat_lt⟩ (by simp only []; omega) (by simp only []; omega)
    simp only [] at hv
    rw [br_ge (by omega), deltaCount_j7_eq, bt_at s i (by omega), hv, wrap_id (x := 10 * (a : Int)) (by omega) (by omega), wrap_id (x := 10 * (a : Int) + (((B s)[i].toNat - 48 : Nat) : Int)) (by omega) (by omega), wrap_id (x := (i : Int) + 1) (by omega) (by omega), chk_le (by omega), chk_lt (by omega), show (i : Int) + 1 = ((i + 1 : Nat) : Int) by omega]
    obtain ⟨v, hvv⟩ : ∃ v : Nat, v = (B s)[i].toNat - 48 := ⟨_, rfl⟩
    rw [← hvv]
    have step : ∀ a' : Nat, a' ≤ 1099511627776 → (a' ≤ 1000000000 → a' = a * 10 + v) → ∃ r, deltaCount_l0 K k s neg (a' : Int) (s.size : Int) ((i + 1 : Nat) : Int) = some r ∧ (r.2 = true → ∃ m : Nat, r.1 = (if neg then -(m : Int) else (m : Int)) ∧ m ≤ 1099511627776 ∧ (m ≤ 1000000000 → a ≤ m ∧ Go.Lib.parseUintM (2 ^ 64 - 1) a ((B s).drop i) = .ok m)) := by
      intro a' h1 h2
      obtain ⟨r, hr, hR⟩ := cnt_loop K s neg hs d (i + 1) k a' (by omega) h1 (by omega)
      refine ⟨r, hr, fun hb => ?_⟩
      obtain ⟨m, e1, e2, e3⟩ := hR hb
      refine ⟨m, e1, e2, fun hm => ?_⟩
      obtain ⟨e4, e5⟩ := e3 hm
      have e6 := h2 (by omega)
      refine ⟨by omega, ?_⟩
      rw [hc]
      show (if 48 ≤ (B s)[i].toNat ∧ (B s)[i].toNat ≤ 57 then (if 1844674407370955162 ≤ a then _ else if 2 ^ 64 - 1 < a * 10 + ((B s)[i].toNat - 48) then _ else _) else _) = _
      rw [if_pos ⟨by omega, by omega⟩, if_neg (by omega), if_neg (by omega), ← hvv, ← e6]
      exact e5
    by_cases c3 : 1099511627776 < 10 * a + v
    · rw [ltI_eq, decide_eq_true (by omega), cond_true]
      exact step 1099511627776 (by omega) (fun h => absurd h (by omega))
    · rw [ltI_eq, decide_eq_false (by omega), cond_false, show 10 * (a : Int) + (v : Int) = ((a * 10 + v : Nat) : Int) by omega]
      exact step (a * 10 + v) (by omega) (fun _ => rfl)
theorem cnt_ok (K : Nat) (s : ByteArray) (hs : s.size ≤ 100000) (hK : 4 * s.size + 20 ≤ K) : ∃ r, deltaCount K s = some r ∧ (r.2 = true → r.1 ≤ 1000000000 → 0 ≤ r.1 → parseIntE s 10 0 = some (r.1, ())) := by
  obtain ⟨K, rfl⟩ : ∃ m, K = m + 1 + 1 + 1 + 1 + 1 := ⟨K - 5, by omega⟩
  have hsz := B_size s
  have bad : ∃ r : Int × Bool, (some ((0 : Int), false) : Option (Int × Bool)) = some r ∧ (r.2 = true → r.1 ≤ 1000000000 → 0 ≤ r.1 → parseIntE s 10 0 = some (r.1, ())) := ⟨_, rfl, fun h => by cases h⟩
  -- the rest of the text, its sign known
  have rest : ∀ (neg : Bool) (t : ByteArray), t.size ≤ s.size → (∀ u : Nat, u ≤ 1000000000 → Go.Lib.parseUintB 64 (B t) = .ok u → (neg = true → u = 0) → parseIntE s 10 0 = some ((u : Int), ())) →
      ∃ r, deltaCount_j2 (K + 1 + 1 + 1 + 1) (K + 1 + 1) t neg = some r ∧ (r.2 = true → r.1 ≤ 1000000000 → 0 ≤ r.1 → parseIntE s 10 0 = some (r.1, ())) := by
    intro neg t ht hp
    rw [deltaCount_j2_eq, eqS_iff, br_dec]
    split
    · exact bad
    · rename_i hne
      rw [deltaCount_j3_eq]
      obtain ⟨r, hr, hR⟩ := cnt_loop (K + 1 + 1 + 1 + 1) t neg (by omega) t.size 0 K 0 (by omega) (by omega) (by omega)
      refine ⟨r, hr, fun h1 h2 h3 => ?_⟩
      obtain ⟨m, e1, e2, e3⟩ := hR h1
      have hB : B t ≠ [] := fun e => hne (B_inj (by rw [e]; rfl))
      have hm : m ≤ 1000000000 := by
        rw [e1] at h2 h3
        cases neg <;> simp at h2 h3 <;> omega
      obtain ⟨_, e5⟩ := e3 hm
      have hz : neg = true → m = 0 := by
        intro hn
        rw [e1, hn] at h3
        simp at h3
        omega
      have := hp m hm (by
        unfold Go.Lib.parseUintB
        rw [if_neg hB]
        exact e5) hz
      rw [this, e1]
      cases neg
      · rfl
      · rw [hz rfl]
        rfl
  have pe : ∀ v : Int, Go.Lib.parseIntB 64 (B s) = .ok v → parseIntE s 10 0 = some (v, ()) := by
    intro v h
    unfold parseIntE
    have h' : Go.Lib.parseIntB 64 s.data.toList = .ok v := h
    rw [if_pos ⟨by omega, rfl, rfl⟩, h']
  rw [deltaCount_eq, br_not, eqS_iff, br_dec]
  by_cases hn : s = ⟨#[]⟩
  · rw [if_pos hn, deltaCount_j0_eq, br_not, eqS_iff, br_dec, if_pos hn, deltaCount_j1_eq, br_false, deltaCount_j2_eq, eqS_iff, br_dec, if_pos hn]
    exact bad
  · have hpos : 0 < s.size := by
      rcases Nat.eq_zero_or_pos s.size with h | h
      · exact absurd (size0 h) hn
      · exact h
    have h0 : 0 < (B s).length := by omega
    have hb0 := bt_at s 0 hpos
    have hc : B s = (B s)[0] :: (B s).drop 1 := by
      have := List.drop_eq_getElem_cons h0
      simpa using this
    have he : B (ByteArray.extract s (Int.toNat 1) (Int.toNat (s.size : Int))) = (B s).drop 1 := by
      rw [B_extract, Int.toNat_natCast]
      exact List.take_of_length_le (by rw [List.length_drop]; simp; omega)
    have hes : (ByteArray.extract s (Int.toNat 1) (Int.toNat (s.size : Int))).size ≤ s.size := by
      rw [← B_size, he, List.length_drop]
      omega
    have e45' : eqI (bt s 0) 45 = decide ((B s)[0] = 45) := by
      have : bt s 0 = (((B s)[0]).toNat : Int) := hb0
      rw [this]
      exact e45 _
    have e43' : eqI (bt s 0) 43 = decide ((B s)[0] = 43) := by
      have : bt s 0 = (((B s)[0]).toNat : Int) := hb0
      rw [this]
      exact e43 _
    rw [if_neg hn, chk_le (by omega), chk_lt (by omega), e45', deltaCount_j0_eq, br_not, eqS_iff, br_dec, if_neg hn, chk_le (by omega), chk_lt (by omega), e45', br_dec, e43', chk_le (by omega), chk_lt (by omega)]
    by_cases c1 : (B s)[0] = 45
    · rw [if_pos c1, decide_eq_true c1, deltaCount_j1_eq, br_true, chk_le (by omega), chk_le (by omega), chk_le (by omega)]
      refine rest true _ hes fun u hu hp hz => ?_
      rw [he] at hp
      have := Go.Lib.parseIntB_minus 64 ((B s).drop 1)
      rw [hp, hz rfl] at this
      rw [hz rfl]
      refine pe _ ?_
      rw [hc, c1]
      rw [this]
      rfl
    · rw [if_neg c1, decide_eq_false c1, deltaCount_j1_eq]
      by_cases c2 : (B s)[0] = 43
      · rw [br_dec, if_pos c2, chk_le (by omega), chk_le (by omega), chk_le (by omega)]
        refine rest false _ hes fun u hu hp hz => ?_
        rw [he] at hp
        have := Go.Lib.parseIntB_plus 64 ((B s).drop 1)
        rw [hp] at this
        refine pe _ ?_
        rw [hc, c2]
        rw [this]
        show (if 2 ^ (64 - 1) ≤ u then _ else _) = _
        rw [if_neg (by omega)]
      · rw [br_dec, if_neg c2]
        refine rest false s (Nat.le_refl _) fun u hu hp hz => ?_
        have := Go.Lib.parseIntB_plain 64 (B s)[0] ((B s).drop 1) (fun h => c2 (UInt8.toNat_inj.1 h)) (fun h => c1 (UInt8.toNat_inj.1 h))
        rw [← hc, hp] at this
        refine pe _ ?_
        rw [this]
        show (if 2 ^ (64 - 1) ≤ u then _ else _) = _
        rw [if_neg (by omega)]
end Go.Proofs.YtfefjbifdbfmjaaDoor.E
