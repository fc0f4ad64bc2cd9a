import Derived.Test.YtaabfadjemmibaaDoorXEvt
import Derived.Test.YtaabfadjemmibaaDoorPx12
import Derived.Test.YtaabfadjemmibaaDoorPx4
/- Common prefixes and suffixes of lists of code points. -/
namespace Go.Proofs.YtaabfadjemmibaaDoor.P
open Go.RowKit Go.Proofs.YtaabfadjemmibaaDoorW.PrintWords Go.Proofs.YtaabfadjemmibaaDoorX
/-- How many elements two lists begin with alike. -/
def cpl : List Int → List Int → Nat
  | a :: s, b :: t => if a = b then cpl s t + 1 else 0
  | _, _ => 0
theorem cpl_le : ∀ x y : List Int, cpl x y ≤ x.length ∧ cpl x y ≤ y.length
  | [], _ => by simp [cpl]
  | _ :: _, [] => by simp [cpl]
  | a :: s, b :: t => by
    have := cpl_le s t
    unfold cpl
    split <;> simp <;> omega
theorem cpl_out (x y : List Int) (h : x = [] ∨ y = []) : cpl x y = 0 := by
  rcases h with rfl | rfl
  · rfl
  · cases x <;> rfl
theorem rd_eq (x : List Int) (i : Nat) (h : i < x.length) : rd x (i : Int) = x[i] := by
  simp [rd, List.getD_eq_getElem?_getD, List.getElem?_eq_getElem h]
theorem cpl_step (x y : List Int) (i : Nat) (h1 : i < x.length) (h2 : i < y.length) :
    cpl (x.drop i) (y.drop i) = if x[i] = y[i] then cpl (x.drop (i + 1)) (y.drop (i + 1)) + 1 else 0 := by
  rw [List.drop_eq_getElem_cons h1, List.drop_eq_getElem_cons h2]
  simp only [cpl]
theorem cplf_loop (x y : List Int) (hx : x.length ≤ 9223372036854775807) : ∀ (d i : Nat), i + d = x.length →
    Evt (fun k => diffmatchpatch_commonPrefixLength.l0 k x y (i : Int)) ((i + cpl (x.drop i) (y.drop i) : Nat) : Int)
  | 0, i, h => by
    refine Evt.succ (fun k => by rw [diffmatchpatch_commonPrefixLength.l0]) ?_
    refine Evt.neg (by omega) ?_
    refine Evt.succ (fun k => by rw [diffmatchpatch_commonPrefixLength.j1]) ?_
    refine Evt.neg (by simp) ?_
    rw [cpl_out _ _ (.inl (List.drop_eq_nil_of_le (by omega)))]
    exact Evt.ret _
  | d + 1, i, h => by
    refine Evt.succ (fun k => by rw [diffmatchpatch_commonPrefixLength.l0]) ?_
    refine Evt.pos (by omega) ?_
    refine Evt.succ (fun k => by rw [diffmatchpatch_commonPrefixLength.j1]) ?_
    refine Evt.ite (fun hc => ?_) (fun hc => ?_)
    · have hy : i < y.length := by have := of_decide_eq_true hc; omega
      have hxi : i < x.length := by omega
      refine Evt.pos (by omega) (Evt.pos (by omega) (Evt.pos (by omega) ?_))
      rw [rd_eq x i hxi, rd_eq y i hy, cpl_step x y i hxi hy]
      refine Evt.ite (fun he => ?_) (fun he => ?_)
      · rw [if_pos he, wrap64_eq (by omega) (by omega)]
        exact (cplf_loop x y hx d (i + 1) (by omega)).cast (by omega)
      · rw [if_neg he]; exact (Evt.ret _).cast (by omega)
    · have hy : y.length ≤ i := by
        have : ¬ ((i : Int) < (y.length : Int)) := by simpa using hc
        omega
      rw [cpl_out _ _ (.inr (List.drop_eq_nil_of_le hy))]
      exact Evt.ret _
theorem cplf (x y : List Int) (hx : x.length ≤ 9223372036854775807) : Evt (fun k => diffmatchpatch_commonPrefixLength.f k x y) (cpl x y : Int) :=
  (cplf_loop x y hx x.length 0 (by omega)).cast (by simp)

/-- How many elements two lists end with alike. -/
def csl (x y : List Int) : Nat := cpl x.reverse y.reverse
theorem csl_le (x y : List Int) : csl x y ≤ x.length ∧ csl x y ≤ y.length := by simpa [csl] using cpl_le x.reverse y.reverse
theorem cslf_loop (x y : List Int) (hx : x.length ≤ 9223372036854775807) (hy : y.length ≤ 9223372036854775807) : ∀ (d n i j : Nat), n + d = x.length → i + n = x.length → j + n = y.length →
    Evt (fun k => diffmatchpatch_commonSuffixLength.l0 k x y (i : Int) (j : Int) (n : Int)) ((n + cpl (x.reverse.drop n) (y.reverse.drop n) : Nat) : Int)
  | 0, n, i, j, h, hi, hj => by
    refine Evt.succ (fun k => by rw [diffmatchpatch_commonSuffixLength.l0]) ?_
    rw [wrap64_eq (n := (i : Int) - 1) (by omega) (by omega)]
    refine Evt.pos (by omega) ?_
    rw [cpl_out _ _ (.inl (List.drop_eq_nil_of_le (by simp; omega)))]
    exact Evt.ret _
  | d + 1, n, i, j, h, hi, hj => by
    refine Evt.succ (fun k => by rw [diffmatchpatch_commonSuffixLength.l0]) ?_
    rw [wrap64_eq (n := (i : Int) - 1) (by omega) (by omega), wrap64_eq (n := (j : Int) - 1) (by omega) (by omega)]
    refine Evt.neg (by omega) ?_
    refine Evt.ite (fun hc => ?_) (fun hc => ?_)
    · rw [cpl_out _ _ (.inr (List.drop_eq_nil_of_le (by simp; omega)))]
      exact Evt.ret _
    · refine Evt.pos (by omega) (Evt.pos (by omega) (Evt.pos (by omega) (Evt.pos (by omega) ?_)))
      obtain ⟨i', rfl⟩ : ∃ i', i = i' + 1 := ⟨i - 1, by omega⟩
      obtain ⟨j', rfl⟩ : ∃ j', j = j' + 1 := ⟨j - 1, by omega⟩
      rw [show ((i' + 1 : Nat) : Int) - 1 = (i' : Int) by omega, show ((j' + 1 : Nat) : Int) - 1 = (j' : Int) by omega, rd_eq x i' (by omega), rd_eq y j' (by omega)]
      have e1 : x.reverse[n]'(by simp; omega) = x[i']'(by omega) := by rw [List.getElem_reverse]; congr 1; omega
      have e2 : y.reverse[n]'(by simp; omega) = y[j']'(by omega) := by rw [List.getElem_reverse]; congr 1; omega
      rw [cpl_step x.reverse y.reverse n (by simp; omega) (by simp; omega), e1, e2]
      refine Evt.ite (fun he => ?_) (fun he => ?_)
      · rw [if_pos he, wrap64_eq (by omega) (by omega)]
        exact (cslf_loop x y hx hy d (n + 1) i' j' (by omega) (by omega) (by omega)).cast (by omega)
      · rw [if_neg he]; exact (Evt.ret _).cast (by omega)
theorem cslf (x y : List Int) (hx : x.length ≤ 9223372036854775807) (hy : y.length ≤ 9223372036854775807) : Evt (fun k => diffmatchpatch_commonSuffixLength.f k x y) (csl x y : Int) := by
  unfold diffmatchpatch_commonSuffixLength.f
  refine Evt.cast (cslf_loop x y hx hy x.length 0 x.length y.length (by omega) (by omega) (by omega)) ?_
  simp [csl]
theorem cpl_take : ∀ x y : List Int, x.take (cpl x y) = y.take (cpl x y)
  | [], y => by simp [cpl]
  | _ :: _, [] => by simp [cpl]
  | a :: s, b :: t => by
    unfold cpl
    split
    · rename_i e; rw [List.take_succ_cons, List.take_succ_cons, cpl_take s t, e]
    · simp
theorem cpl_max : ∀ (x y : List Int) (h1 : cpl x y < x.length) (h2 : cpl x y < y.length), x[cpl x y] ≠ y[cpl x y]
  | [], _, h1, _ => by simp at h1
  | _ :: _, [], _, h2 => by simp at h2
  | a :: s, b :: t, h1, h2 => by
    by_cases e : a = b
    · have e1 : cpl (a :: s) (b :: t) = cpl s t + 1 := by simp [cpl, e]
      simp only [e1, List.length_cons] at h1 h2
      have := cpl_max s t (by omega) (by omega)
      simpa [e1] using this
    · have e1 : cpl (a :: s) (b :: t) = 0 := by simp [cpl, e]
      simpa [e1] using e
theorem csl_drop (x y : List Int) : x.drop (x.length - csl x y) = y.drop (y.length - csl x y) := by
  have h := cpl_take x.reverse y.reverse
  have := congrArg List.reverse h
  rw [List.reverse_take, List.reverse_take] at this
  simpa [csl] using this
end Go.Proofs.YtaabfadjemmibaaDoor.P
