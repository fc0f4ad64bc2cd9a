import Derived.Test.YtblmeoigjbnmiaaDoorYD
/- diffHalfMatchI: the whole. -/
set_option linter.unusedVariables false
set_option linter.unusedSimpArgs false
namespace Go.Proofs.YtblmeoigjbnmiaaDoor.E
open Go.Ev
section
variable (K : Nat) (h : Hp) (a b : Nat) (La Lb sd : List Int) (i sk sl : Nat) (hA : TxO h a La) (hB : TxO h b Lb) (hS : Hp.rd h (.int .i32) (.at a sk sl) = some sd) (hi : i ≤ La.length) (h4 : 4 ≤ La.length) (la : La.length ≤ 100000) (lb : Lb.length ≤ 100000) (lsd : sd.length ≤ 100000) (hK : 1000000 ≤ K)
include hA hB hS hi h4 la lb lsd hK
theorem hm_l0 : ∀ (d : Nat) (x17 : Int) (k : Nat), (x17 = -1 ∨ ∃ jj : Nat, x17 = (jj : Int) ∧ jj ≤ Lb.length ∧ Lb.length - jj < d) → 3 * d + 3 * Lb.length + 30 ≤ k →
    HMr h a b La Lb (diffHalfMatchI_l0 K k (.at a 0 La.length) (.at b 0 Lb.length) (i : Int) [] [] (0 : Int) [] [] [] [] (.at a sk sl) x17 h) := by
  have stop : ∀ k, HMr h a b La Lb (diffHalfMatchI_l0 K (k + 2) (.at a 0 La.length) (.at b 0 Lb.length) (i : Int) [] [] (0 : Int) [] [] [] [] (.at a sk sl) (-(1 : Int)) h) := by
    intro k
    rw [diffHalfMatchI_l0_eq, br_not, br_eq rfl, diffHalfMatchI_j1_eq, rlen_at, wrap_id (by omega) (by omega), br_lt (by omega)]
    exact .inl rfl
  intro d
  induction d with
  | zero =>
    intro x17 k hx hk
    rcases hx with rfl | ⟨jj, rfl, hjj, hd⟩
    · obtain ⟨k, rfl⟩ : ∃ m, k = m + 2 := ⟨k - 2, by omega⟩
      exact stop k
    · omega
  | succ d ih =>
    intro x17 k hx hk
    rcases hx with rfl | ⟨jj, rfl, hjj, hd⟩
    · obtain ⟨k, rfl⟩ : ∃ m, k = m + 2 := ⟨k - 2, by omega⟩
      exact stop k
    obtain ⟨k, rfl⟩ : ∃ m, k = m + 4 := ⟨k - 4, by omega⟩
    rw [diffHalfMatchI_l0_eq, br_not, br_ne (by omega)]
    have nextok : ∀ (s p j : Nat), Bst La Lb i s p j → HMr h a b La Lb (diffHalfMatchI_j2 K (k + 2) (.at a 0 La.length) (.at b 0 Lb.length) (i : Int) (.at b (j - s) s) (.at b j p) ((s + p : Nat) : Int) (.at a 0 (i - s)) (.at a (i + p) (La.length - (i + p))) (.at b 0 (j - s)) (.at b (j + p) (Lb.length - (j + p))) (.at a sk sl) (jj : Int) h) := by
      intro s p j hb
      rw [diffHalfMatchI_j2_eq, rd_all hB, obs, hS, obs, wrap_id (by omega) (by omega), show (jj : Int) + 1 = ((jj + 1 : Nat) : Int) by omega]
      rcases rif_ok K Lb sd (jj + 1) (by omega) (by omega) (by omega) (by omega) with e | ⟨j2, g1, g2, e⟩
      · rw [e, obs]
        exact hm_l1z K h a b La Lb i sk sl hB la lb s p j (k + 1) hb (by omega)
      · rw [e, obs]
        exact hm_l1 K h a b La Lb sd i sk sl hA hB hS hi h4 la lb lsd hK (Lb.length + 1) (j2 : Int) s p j (k + 1) hb (.inr ⟨j2, rfl, by omega, by omega⟩) (by omega)
    rw [diffHalfMatchI_j0_eq]
    simp only [rlen_at, rcut_at, Int.toNat_natCast, Int.toNat_zero, Nat.zero_add, Nat.sub_zero]
    have hb0 := bst_of La Lb i jj hi hjj
    rw [chk_le (by omega), chk_le (by omega), chk_le (by omega), chk_le (by omega), chk_le (by omega), chk_le (by omega), rd_tx hA i _ (by omega), obs, rd_tx hB jj _ (by omega), obs, List.take_of_length_le (by rw [List.length_drop]; omega), List.take_of_length_le (by rw [List.length_drop]; omega), cpl_ok K _ _ (by rw [List.length_drop]; omega) (by rw [List.length_drop]; omega), obs,
      chk_le (by omega), chk_le (by omega), chk_le (by omega), chk_le (by omega), chk_le (by omega), chk_le (by omega), rd_tx hA 0 _ (by omega), obs, rd_tx hB 0 _ (by omega), obs, List.drop_zero, List.drop_zero, csl_ok K _ _ (by rw [List.length_take]; omega) (by rw [List.length_take]; omega) (by rw [List.length_take]; omega), obs]
    generalize csl (La.take i) (Lb.take jj) = S at hb0 ⊢
    generalize cpl (La.drop i) (Lb.drop jj) = P at hb0 ⊢
    obtain ⟨b1, b2, b3, b4, _⟩ := id hb0
    have w0 : IntKind.wrap IntKind.i64 ((S : Int) + (P : Int)) = ((S + P : Nat) : Int) := by rw [wrap_id (by omega) (by omega)]; omega
    rw [w0]
    by_cases hl : (0 : Int) < ((S + P : Nat) : Int)
    · have w1 : IntKind.wrap IntKind.i64 ((jj : Int) - (S : Int)) = ((jj - S : Nat) : Int) := by rw [wrap_id (by omega) (by omega)]; omega
      have w2 : IntKind.wrap IntKind.i64 ((jj : Int) + (P : Int)) = ((jj + P : Nat) : Int) := by rw [wrap_id (by omega) (by omega)]; omega
      have w3 : IntKind.wrap IntKind.i64 ((i : Int) - (S : Int)) = ((i - S : Nat) : Int) := by rw [wrap_id (by omega) (by omega)]; omega
      have w4 : IntKind.wrap IntKind.i64 ((i : Int) + (P : Int)) = ((i + P : Nat) : Int) := by rw [wrap_id (by omega) (by omega)]; omega
      rw [br_lt hl, w1, w2, w3, w4]
      rw [chk_le (by omega), chk_le (by omega), chk_le (by omega), chk_le (by omega), chk_le (by omega), chk_le (by omega), chk_le (by omega), chk_le (by omega), chk_le (by omega), chk_le (by omega), chk_le (by omega), chk_le (by omega), chk_le (by omega), chk_le (by omega), chk_le (by omega), chk_le (by omega), chk_le (by omega), chk_le (by omega)]
      simp only [Int.toNat_natCast, rlen_at]
      rw [show jj - (jj - S) = S by omega, show jj + P - jj = P by omega, w0]
      exact nextok S P jj hb0
    · rw [br_ge (by omega)]
      rw [diffHalfMatchI_j3_eq, rd_all hB, obs, hS, obs, wrap_id (by omega) (by omega), show (jj : Int) + 1 = ((jj + 1 : Nat) : Int) by omega]
      rcases rif_ok K Lb sd (jj + 1) (by omega) (by omega) (by omega) (by omega) with e | ⟨j2, g1, g2, e⟩
      · rw [e, obs]
        exact ih (-1) (k + 1) (.inl rfl) (by omega)
      · rw [e, obs]
        exact ih (j2 : Int) (k + 1) (.inr ⟨j2, rfl, by omega, by omega⟩) (by omega)
end
theorem I_ok (K : Nat) (h : Hp) (a b : Nat) (La Lb : List Int) (i : Nat) (hA : TxO h a La) (hB : TxO h b Lb) (hi : i + La.length / 4 ≤ La.length) (h4 : 4 ≤ La.length) (la : La.length ≤ 100000) (lb : Lb.length ≤ 100000) (hK : 2000000 ≤ K) :
    HMr h a b La Lb (diffHalfMatchI K h (.at a 0 La.length) (.at b 0 Lb.length) (i : Int)) := by
  obtain ⟨K, rfl⟩ : ∃ m, K = m + 1 := ⟨K - 1, by omega⟩
  have t4 : Int.tdiv (La.length : Int) (4 : Int) = ((La.length / 4 : Nat) : Int) := rfl
  have w1 : IntKind.wrap IntKind.i64 (((La.length / 4 : Nat) : Int)) = ((La.length / 4 : Nat) : Int) := wrap_id (by omega) (by omega)
  have w2 : IntKind.wrap IntKind.i64 ((i : Int) + ((La.length / 4 : Nat) : Int)) = ((i + La.length / 4 : Nat) : Int) := by rw [wrap_id (by omega) (by omega)]; omega
  rw [diffHalfMatchI_eq]
  simp only [rlen_at, t4, w1, w2, rcut_at, Int.toNat_natCast, Nat.zero_add]
  rw [show i + La.length / 4 - i = La.length / 4 by omega]
  have hS := rd_tx hA i (La.length / 4) (by omega)
  rw [chk_neq (by omega), chk_le (by omega), chk_le (by omega), chk_le (by omega), rd_all hB, obs, hS, obs]
  have hl : ((La.drop i).take (La.length / 4)).length ≤ 100000 := by rw [List.length_take]; omega
  rcases rif_ok K Lb _ 0 (by omega) (show ((La.drop i).take (La.length / 4)).length ≤ 1000000 by omega) (by omega) (by omega) with e | ⟨j2, g1, g2, e⟩
  · rw [show (0 : Int) = ((0 : Nat) : Int) from rfl, e, obs]
    exact hm_l0 K h a b La Lb _ i i _ hA hB hS (by omega) h4 la lb hl (by omega) 0 (-1) K (.inl rfl) (by omega)
  · rw [show (0 : Int) = ((0 : Nat) : Int) from rfl, e, obs]
    exact hm_l0 K h a b La Lb _ i i _ hA hB hS (by omega) h4 la lb hl (by omega) (Lb.length + 1) (j2 : Int) K (.inr ⟨j2, rfl, by omega, by omega⟩) (by omega)
end Go.Proofs.YtblmeoigjbnmiaaDoor.E
