import Derived.Test.YtfefjbifdbfmjaaDoorDL
/- Differences are shown as a coloured text: equalities as they are, each line of an insertion green, of a deletion red. -/
set_option linter.unusedVariables false
set_option linter.unusedSimpArgs false
namespace Go.Proofs.YtfefjbifdbfmjaaDoor.E
open Go.Ev
theorem Pure.FnPrettyText (l : List TS1.den) (_h : l.length ≤ 9223372036854775807 ∧ ∀ y ∈ l, ((Lit.int .i64 y.1).wf = true) ∧ (y.2.size ≤ 9223372036854775807)) : ∃ k, callF k 7 (l, ()) = some true := by
  refine ⟨2 * l.length + 10000, ?_⟩
  show E.FnPrettyText (2 * l.length + 9999 + 1) l = some true
  refine guarded (F := fun K => E.FnPrettyText K l) (J0 := fun _ => none) (J1 := fun _ => none) (J0' := fun K k => FnPrettyText_j0 K k l) (J1' := fun K k => FnPrettyText_j1 K k l) _ l (by omega) (by omega) (FnPrettyText_eq _ l) (fun k => FnPrettyText_j0_eq _ k l) ?_
  intro hl hg aw k hk
  obtain ⟨k, rfl⟩ : ∃ m, k = m + 1 := ⟨k - 1, by omega⟩
  have hg' : ∀ d ∈ l, d.2.size ≤ 40 ∧ -1 ≤ d.1 ∧ d.1 ≤ 1 := fun d hd => ⟨(hg d hd).1, (hg d hd).2.1, (hg d hd).2.2.1⟩
  rw [FnPrettyText_j1_eq, aw, Option.bind_some, br_true, cleanOwn_ok _ l (by omega) (by omega), Option.bind_some, ptext_ok _ l hl hg' (by omega), Option.bind_some, cleanOf_ok _ l (by omega) (by omega), Option.bind_some, ltxt_ok _ l (by omega) (fun d hd => (hg d hd).1) (by omega), Option.bind_some, eqS_iff, decide_eq_true rfl]
end Go.Proofs.YtfefjbifdbfmjaaDoor.E
