import Derived.Test.YtfglahmbnnkijaaNB
import Derived.Test.YtfglahmbnnkijaaSV
/- The edits by lines lead from a text to another one, and begin and end where lines do. -/
set_option linter.unusedVariables false
set_option linter.unusedSimpArgs false
namespace Go.Proofs.Ytfglahmbnnkijaa.E
open Go.Ev Go.Lcs
theorem Pure.FnUdiffLines (a b : ByteArray) (_ha : a.size ≤ 9223372036854775807) (_hb : b.size ≤ 9223372036854775807) : ∃ k, callF k 9 (a, b, ()) = some true := by
  obtain ⟨K, hK⟩ : ∃ K : Nat, 2999999999 ≤ K := ⟨_, Nat.le_refl _⟩
  refine ⟨K + 1, ?_⟩
  show E.FnUdiffLines (K + 1) a b = some true
  have aw : editAwake K = some true := by
    have := awake (K - 60)
    rwa [show K - 60 + 60 = K by omega] at this
  obtain ⟨k, hk⟩ : ∃ m, K = m + 4 := ⟨K - 4, by omega⟩
  have j0 : ∀ c, FnUdiffLines_j0 K K a b c = FnUdiffLines_j0 K (k + 4) a b c := fun c => by rw [← hk]
  have big : FnUdiffLines_j0 K K a b true = some true := by rw [j0, FnUdiffLines_j0_eq, br_true]
  rw [FnUdiffLines_eq]
  by_cases h1 : (2147483647 : Int) < (a.size : Int)
  · rw [br_lt h1, big]
  rw [br_ge (by omega), ltI_eq]
  by_cases h2 : (2147483647 : Int) < (b.size : Int)
  · rw [decide_eq_true h2, big]
  rw [decide_eq_false h2, j0, FnUdiffLines_j0_eq, br_false, FnUdiffLines_j1_eq, editTexts_ok K a b (by omega), obs]
  cases hc : (decide ((a.size : Int) ≤ 200 ∧ strOfRunes (runesI a) = a) && decide ((b.size : Int) ≤ 200 ∧ strOfRunes (runesI b) = b)) with
  | false => rw [Bool.not_false, br_true, aw, obs]
  | true =>
  rw [Bool.and_eq_true] at hc
  obtain ⟨sa, _, _⟩ := clean_vt hc.1
  obtain ⟨sb, _, _⟩ := clean_vt hc.2
  obtain ⟨D, O, e0, fd, hL, jb', lb⟩ := EditLines_ok K a b (by omega) (by omega) (by omega)
  have la := hL.2.1
  have hD := (ld_bound D 0 0 fd.1).2
  have hml : (D.map (edL (linesOf a) (linesOf b))).length = D.length := List.length_map ..
  obtain ⟨h1, r1, e1, b1⟩ := editOf_ok K Hp.empty FreeH.empty (D.map (edL (linesOf a) (linesOf b))) (by omega) (by omega)
  have hl := leads _ _ D fd
  rw [hL.1, jb'] at hl
  have hnew : ∀ e ∈ D.map (edL (linesOf a) (linesOf b)), e.2.2.size ≤ 100000 := by
    intro e he
    obtain ⟨s, _, rfl⟩ := List.mem_map.1 he
    have := jn_take (linesOf b) s.2.2.1.toNat (s.2.2.2 - s.2.2.1).toNat
    rw [jb'] at this
    show (jn _).size ≤ 100000
    omega
  have hsame : a = b → D = [] := by
    intro hab
    subst hab
    exact foundL_same fd
  have hfin := editLines_ok K h1 r1 a b O hL (linesOf b) D (by omega) b1.sl (by omega) hl.1 hl.2 hnew hsame (by omega)
  rw [Bool.not_true, br_false, FnUdiffLines_j2_eq, aw, obs, br_true, e0, obs, e1, obs]
  show Option.bind (editLines K h1 a b r1) _ = _
  rw [hfin, obs]
end Go.Proofs.Ytfglahmbnnkijaa.E
