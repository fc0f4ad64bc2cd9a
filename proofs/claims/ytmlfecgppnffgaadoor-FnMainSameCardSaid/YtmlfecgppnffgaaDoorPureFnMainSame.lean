import Derived.Test.YtmlfecgppnffgaaDoorRJ
/- The difference of a text and itself. -/
set_option linter.unusedVariables false
set_option linter.unusedSimpArgs false
namespace Go.Proofs.YtmlfecgppnffgaaDoor.E
open Go.Ev
theorem same_loop (K : Nat) (l : List TS0.den) (hl : l.length ≤ 1000000) : ∀ (d i k : Nat), i + d = l.length → 2 * d + 1 ≤ k → sameDiffs_l0 K k l l (l.length : Int) (i : Int) = some true
  | 0, i, k, h, hk => by
    obtain ⟨k, rfl⟩ : ∃ m, k = m + 1 := ⟨k - 1, by omega⟩
    rw [sameDiffs_l0_eq, br_ge (by omega)]
  | d + 1, i, k, h, hk => by
    obtain ⟨k, rfl⟩ : ∃ m, k = m + 1 := ⟨k - 1, by omega⟩
    obtain ⟨k, rfl⟩ : ∃ m, k = m + 1 := ⟨k - 1, by omega⟩
    rw [sameDiffs_l0_eq, br_lt (by omega), sameDiffs_j1_eq, chk_le (by omega), chk_lt (by omega), chk_le (by omega), chk_lt (by omega), eqI_t rfl, eqS_iff, decide_eq_true rfl, Bool.and_self, br_not, br_true, wrap_id (by omega) (by omega), show (i : Int) + 1 = ((i + 1 : Nat) : Int) by omega]
    exact same_loop K l hl d (i + 1) k (by omega) (by omega)
theorem same_ok (K : Nat) (l : List TS0.den) (hl : l.length ≤ 1000000) (hK : 2 * l.length + 4 ≤ K) : sameDiffs K l l = some true := by
  obtain ⟨K, rfl⟩ : ∃ m, K = m + 1 := ⟨K - 1, by omega⟩
  obtain ⟨K, rfl⟩ : ∃ m, K = m + 1 := ⟨K - 1, by omega⟩
  rw [sameDiffs_eq, br_not, br_eq rfl, sameDiffs_j0_eq]
  exact same_loop _ l hl l.length 0 K (by omega) (by omega)
theorem Pure.FnMainSame (a0 : ByteArray) (a1 : Bool) (_h0 : a0.size ≤ 9223372036854775807) : ∃ k, callF k 7 (a0, a1, ()) = some true := by
  obtain ⟨k, hk⟩ : ∃ k : Nat, k = 100000 := ⟨_, rfl⟩
  refine ⟨k + 3 + 1, ?_⟩
  show E.FnMainSame (k + 3 + 1) a0 a1 = some true
  rw [FnMainSame_eq]
  by_cases g0 : (2147483647 : Int) < a0.size
  · rw [br_lt g0]
  · rw [br_ge (by omega), FnMainSame_j0_eq, isDiffText_ok _ a0 200 (by omega) (by omega) (by omega) (by omega), Option.bind_some, br_not]
    cases t0 : txt 200 a0 with
    | false => rw [br_false]
    | true =>
      obtain ⟨v0, n0⟩ := txt_vt t0
      have e1 := main_law_same a0 a1 (k + 3) v0 (by omega) (by omega)
      have hlen : (one1 (runesI a0)).length ≤ 1 := by
        unfold one1
        split <;> simp
      have hb := v0.back
      rw [br_true, FnMainSame_j1_eq, eqS_iff, br_not]
      by_cases he : a0 = (⟨#[]⟩ : ByteArray)
      · have hr : runesI a0 = [] := by rw [he]; rfl
        rw [decide_eq_true he, br_true, FnMainSame_j2_eq, e1, Option.bind_some, diffOf_ok _ _ (by rw [enc_len]; omega) (by rw [enc_len]; omega), Option.bind_some, one1_0 hr]
        rw [show enc ([] : List M) = [] from rfl, same_ok _ [] (by simp) (by simp; omega), Option.bind_some, br_true, awake _ (by omega)]
        rfl
      · have hr : runesI a0 ≠ [] := by
          intro h
          apply he
          rw [← hb, h]
          rfl
        rw [decide_eq_false he, br_false, FnMainSame_j2_eq, e1, Option.bind_some, diffOf_ok _ _ (by rw [enc_len]; omega) (by rw [enc_len]; omega), Option.bind_some, one1_1 hr]
        rw [show enc [((0 : Int), runesI a0)] = [(0, a0)] from by rw [← congrArg (fun z => [((0 : Int), z)]) hb]; rfl]
        rw [same_ok _ _ (by simp) (by simp; omega), Option.bind_some, br_true, awake _ (by omega)]
        rfl
end Go.Proofs.YtmlfecgppnffgaaDoor.E
