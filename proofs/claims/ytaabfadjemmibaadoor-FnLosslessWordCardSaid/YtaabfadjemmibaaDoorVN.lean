import Derived.Test.YtaabfadjemmibaaDoorVM
import Derived.Test.YtaabfadjemmibaaDoorPureFnMergeKeeps
/- What the statements of cleanASCII begin with. -/
set_option linter.unusedVariables false
set_option linter.unusedSimpArgs false
namespace Go.Proofs.YtaabfadjemmibaaDoor.E
open Go.Ev
theorem ascii_case {l : List TS0.den} (h : (decide (l.length ≤ 12) && l.all (goodD 40 true)) = true) : ∃ e : List M, l = enc e ∧ Ascm e ∧ Typed e ∧ (∀ x ∈ e, x.2 ≠ []) ∧ e.length ≤ 12 ∧ wt e + mu e ≤ 1000 := by
  rw [Bool.and_eq_true] at h
  have h2 : l.all (goodD 40 false) = true := by
    rw [List.all_eq_true] at *
    intro d hd
    have := h.2 d hd
    unfold goodD at this ⊢
    simp only [Bool.and_eq_true] at this ⊢
    exact ⟨this.1, rfl⟩
  obtain ⟨e, rfl, o1, t1, n1, l1, w1⟩ := few_case (l := l) (by rw [Bool.and_eq_true]; exact ⟨h.1, h2⟩)
  refine ⟨e, rfl, fun m hm => ?_, t1, n1, l1, w1⟩
  refine asc_str (o1 m hm) fun j hj => ?_
  have h3 := (List.all_eq_true.1 h.2) (m.1, strOfRunes m.2) (List.mem_map_of_mem (f := enc1) hm)
  unfold goodD at h3
  simp only [Bool.and_eq_true, Bool.or_eq_true, Bool.not_eq_true', List.all_eq_true, decide_eq_true_eq] at h3
  rcases h3.2 with h4 | h4
  · cases h4
  · exact h4 j (List.mem_range.2 hj)
theorem ne0_of {e : List M} (h : ∀ x ∈ e, x.2 ≠ []) : Ne0 e := fun m hm _ => h m hm
end Go.Proofs.YtaabfadjemmibaaDoor.E
