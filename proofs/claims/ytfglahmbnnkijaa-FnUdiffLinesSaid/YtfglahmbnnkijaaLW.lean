import Derived.Test.YtfglahmbnnkijaaLV
/- The edits from a text to another one: what is found. -/
set_option linter.unusedVariables false
set_option linter.unusedSimpArgs false
namespace Go.Proofs.Ytfglahmbnnkijaa.E
open Go.Ev Go.Lcs
theorem editTexts_ok (K : Nat) (a b : ByteArray) (hK : 2 ≤ K) : editTexts K a b = some (decide ((a.size : Int) ≤ 200 ∧ strOfRunes (runesI a) = a) && decide ((b.size : Int) ≤ 200 ∧ strOfRunes (runesI b) = b)) := by
  obtain ⟨K, rfl⟩ : ∃ m, K = m + 1 := ⟨K - 1, by omega⟩
  rw [editTexts_eq, CleanChars_ok K a 200 (by omega) (by omega), obs]
  cases decide ((a.size : Int) ≤ 200 ∧ strOfRunes (runesI a) = a) with
  | false => rfl
  | true =>
    rw [br_true, CleanChars_ok K b 200 (by omega) (by omega), obs]
    rfl
end Go.Proofs.Ytfglahmbnnkijaa.E
