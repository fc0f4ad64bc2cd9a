import Derived.Test.YtfefjbifdbfmjaaDoorDH
/- A delta has for each difference, with tabs between, = or - with the number of its characters, or + with its text, in which all bytes but letters, digits and some signs are escaped. -/
set_option linter.unusedVariables false
set_option linter.unusedSimpArgs false
namespace Go.Proofs.YtfefjbifdbfmjaaDoor.E
open Go.Ev
theorem Pure.FnDeltaWrite (l : List TS1.den) (_h : l.length ≤ 9223372036854775807 ∧ ∀ y ∈ l, ((Lit.int .i64 y.1).wf = true) ∧ (y.2.size ≤ 9223372036854775807)) : ∃ k, callF k 6 (l, ()) = some true := by
  refine ⟨2 * l.length + 30000, ?_⟩
  show E.FnDeltaWrite (2 * l.length + 29999 + 1) l = some true
  refine guarded (F := fun K => E.FnDeltaWrite K l) (J0 := fun _ => none) (J1 := fun _ => none) (J0' := fun K k => FnDeltaWrite_j0 K k l) (J1' := fun K k => FnDeltaWrite_j1 K k l) _ l (by omega) (by omega) (FnDeltaWrite_eq _ l) (fun k => FnDeltaWrite_j0_eq _ k l) ?_
  intro hl hg aw k hk
  obtain ⟨k, rfl⟩ : ∃ m, k = m + 1 := ⟨k - 1, by omega⟩
  have hg' : ∀ d ∈ l, d.2.size ≤ 40 ∧ -1 ≤ d.1 ∧ d.1 ≤ 1 := fun d hd => ⟨(hg d hd).1, (hg d hd).2.1, (hg d hd).2.2.1⟩
  rw [FnDeltaWrite_j1_eq, aw, Option.bind_some, br_true, cleanOwn_ok _ l (by omega) (by omega), Option.bind_some, todelta_ok _ l hl hg' (by omega), Option.bind_some, cleanOf_ok _ l (by omega) (by omega), Option.bind_some, of_ok _ l (by omega) hg' (by omega), Option.bind_some, eqS_iff, decide_eq_true rfl]
end Go.Proofs.YtfefjbifdbfmjaaDoor.E
