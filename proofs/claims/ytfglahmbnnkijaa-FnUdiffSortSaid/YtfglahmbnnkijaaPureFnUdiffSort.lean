import Derived.Test.YtfglahmbnnkijaaSC
import Derived.Test.YtfglahmbnnkijaaSV
/- Edits are sorted by their starts, then by their ends, the same ones in their order. -/
set_option linter.unusedVariables false
set_option linter.unusedSimpArgs false
namespace Go.Proofs.Ytfglahmbnnkijaa.E
open Go.Ev Go.Lcs
theorem Pure.FnUdiffSort (l : List TS1.den) (_h : l.length ≤ 9223372036854775807 ∧ ∀ y ∈ l, ((Lit.int .i64 y.1).wf = true) ∧ ((Lit.int .i64 y.2.1).wf = true) ∧ (y.2.2.size ≤ 9223372036854775807)) : ∃ k, callF k 6 (l, ()) = some true := by
  obtain ⟨K, hK0⟩ : ∃ K, K = 2 * l.length + 2999999999 := ⟨_, rfl⟩
  refine ⟨K + 1, ?_⟩
  show E.FnUdiffSort (K + 1) l = some true
  have hK : 2999999999 ≤ K := by omega
  have hK2 : 2 * l.length + 10 ≤ K := by omega
  clear hK0
  have aw : editAwake K = some true := by
    have := awake (K - 60)
    rwa [show K - 60 + 60 = K by omega] at this
  rw [FnUdiffSort_eq]
  obtain ⟨b, hf, hl⟩ := zzFits8_ok K l hK2
  rw [hf, obs]
  cases b with
  | false => rfl
  | true =>
    have hl := hl rfl
    have fe := editFew_ok K l (by omega)
    obtain ⟨k, hk⟩ : ∃ m, K = m + 2 := ⟨K - 2, by omega⟩
    rw [Bool.not_true, br_false]
    have j0 : FnUdiffSort_j0 K K l = FnUdiffSort_j0 K (k + 2) l := by rw [← hk]
    rw [j0, FnUdiffSort_j0_eq, fe, obs, aw]
    cases hw : few l with
    | false => rfl
    | true =>
      obtain ⟨h12, hs⟩ := few_iff hw
      obtain ⟨h1, r1, e1, b1⟩ := editOf_ok K Hp.empty FreeH.empty (isV eLt l).reverse (by rw [List.length_reverse, isV_length]; omega) (by rw [List.length_reverse, isV_length]; omega)
      obtain ⟨h2, r2, e2, b2⟩ := editOf_ok K h1 b1.2.1 l (by omega) (by omega)
      obtain ⟨h3, r3, e3, s3, k3, f3⟩ := EditsSorted_ok K h2 r2 l b2.sl b2.2.1 (by omega) (by omega)
      have s1 := (b1.sl.keep b2.1).keep k3
      rw [Bool.not_true, br_false, FnUdiffSort_j1_eq, aw, obs, br_true, editOwn_ok K l (by omega) (by omega), obs, implSort_ok K l hs h12 (by omega), obs, e1, obs, e2, obs, e3, obs]
      show Option.bind (EditsSame K h3 r1 r3) _ = _
      rw [EditsSame_ok K h3 r1 r3 _ _ s1 s3 (by rw [List.length_reverse, isV_length]; omega) (by rw [List.length_reverse, isV_length]; omega), decide_eq_true rfl]
      rfl
end Go.Proofs.Ytfglahmbnnkijaa.E
