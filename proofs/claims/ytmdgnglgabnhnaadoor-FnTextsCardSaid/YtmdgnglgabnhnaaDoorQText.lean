import Derived.Test.YtmdgnglgabnhnaaDoorXEvt
import Derived.Test.YtmdgnglgabnhnaaDoorXUtf
import Derived.Test.YtmdgnglgabnhnaaDoorPx1
/- Texts: validity, how many characters. -/
namespace Go.Proofs.YtmdgnglgabnhnaaDoor.P
open Go.RowKit Go.Proofs.YtmdgnglgabnhnaaDoorW.PrintWords Go.Proofs.YtmdgnglgabnhnaaDoorX
theorem valid_f (s : ByteArray) (h : s.size ≤ 9223372036854775807) : utf8_ValidString.f s = some (Lib.validD s.data.toList) := by unfold utf8_ValidString.f; rw [if_pos h]
theorem count_f (s : ByteArray) (h : s.size < 9223372036854775807) : utf8_RuneCountInString.f s = some (Lib.runeCount s : Int) := by unfold utf8_RuneCountInString.f; rw [if_pos h]
/-- 'spec.IsDiffText' answers; if yes: valid, few bytes, few characters. -/
theorem isDiffText (s : ByteArray) (n : Nat) (hn : n ≤ 1000) : ∃ b, spec_IsDiffText.f s (n : Int) = some b ∧ (b = true → s.size ≤ 4 * n ∧ Lib.validD s.data.toList = true ∧ Lib.runeCount s ≤ n) := by
  unfold spec_IsDiffText.f
  rw [wrap64_eq (by omega) (by omega)]
  by_cases h : (s.size : Int) ≤ 4 * (n : Int)
  · rw [if_pos h, valid_f s (by omega), Option.bind_some]
    by_cases hv : Lib.validD s.data.toList = true
    · rw [if_pos hv, count_f s (by omega), Option.bind_some]
      exact ⟨_, rfl, fun hb => ⟨by omega, hv, by have := of_decide_eq_true hb; omega⟩⟩
    · rw [if_neg hv]; exact ⟨_, rfl, fun hb => by cases hb⟩
  · rw [if_neg h]; exact ⟨_, rfl, fun hb => by cases hb⟩
end Go.Proofs.YtmdgnglgabnhnaaDoor.P
