import Derived.Test.YtfefjbifdbfmjaaDoorDK
/- From the first text and the delta of differences these are read. -/
set_option linter.unusedVariables false
set_option linter.unusedSimpArgs false
namespace Go.Proofs.YtfefjbifdbfmjaaDoor.E
open Go.Ev
theorem Pure.FnDeltaBack (l : List TS1.den) (_h : l.length ≤ 9223372036854775807 ∧ ∀ y ∈ l, ((Lit.int .i64 y.1).wf = true) ∧ (y.2.size ≤ 9223372036854775807)) : ∃ k, callF k 3 (l, ()) = some true := by
  refine ⟨2 * l.length + 30000, ?_⟩
  show E.FnDeltaBack (2 * l.length + 29999 + 1) l = some true
  refine guarded (F := fun K => E.FnDeltaBack K l) (J0 := fun _ => none) (J1 := fun _ => none) (J0' := fun K k => FnDeltaBack_j0 K k l) (J1' := fun K k => FnDeltaBack_j1 K k l) _ l (by omega) (by omega) (FnDeltaBack_eq _ l) (fun k => FnDeltaBack_j0_eq _ k l) ?_
  intro hl hg aw k hk
  obtain ⟨k, rfl⟩ : ∃ m, k = m + 1 := ⟨k - 1, by omega⟩
  have hg' : ∀ d ∈ l, d.2.size ≤ 40 ∧ -1 ≤ d.1 ∧ d.1 ≤ 1 := fun d hd => ⟨(hg d hd).1, (hg d hd).2.1, (hg d hd).2.2.1⟩
  have hg2 : ∀ d ∈ l, d.2.size ≤ 40 ∧ -1 ≤ d.1 ∧ d.1 ≤ 1 ∧ Vt d.2 := fun d hd => ⟨(hg d hd).1, (hg d hd).2.1, (hg d hd).2.2.1, (hg d hd).2.2.2.1⟩
  have hs1 : ∀ d ∈ l, d.2.size ≤ 1000 := fun d hd => Nat.le_trans (hg d hd).1 (by omega)
  rw [FnDeltaBack_j1_eq, cleanOf_ok _ l (by omega) (by omega), Option.bind_some, side_ok _ l (by omega) hs1 (by omega), Option.bind_some, cleanOwn_ok _ l (by omega) (by omega), Option.bind_some, todelta_ok _ l hl hg' (by omega), Option.bind_some, fromdelta_ok _ (by omega) l hl hg2, Option.bind_some, aw, Option.bind_some, br_true, eqS_iff, decide_eq_true rfl, br_true]
  simp only []
  rw [cleanOf_ok _ l (by omega) (by omega), Option.bind_some, Option.bind_some, same_ok _ l (by omega) (by omega), Option.bind_some]
end Go.Proofs.YtfefjbifdbfmjaaDoor.E
