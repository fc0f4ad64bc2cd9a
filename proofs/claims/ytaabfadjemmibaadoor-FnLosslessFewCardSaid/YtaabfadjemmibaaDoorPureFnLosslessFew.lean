import Derived.Test.YtaabfadjemmibaaDoorQLossLaw
import Derived.Test.YtaabfadjemmibaaDoorPx8
/- Lists without an edit alone between two equalities, neighbours of different types, are not shifted. -/
namespace Go.Proofs.YtaabfadjemmibaaDoor.P
open Go.RowKit Go.Lib Go.Proofs.YtaabfadjemmibaaDoorW.PrintWords Go.Proofs.YtaabfadjemmibaaDoorX
theorem lossless_none (l : List DD) (hl : l.length ≤ 100000) (h : ∀ p (h2 : p + 1 < l.length), 1 ≤ p → ¬ ((l[p - 1]'(by omega)).f0 = 0 ∧ (l[p + 1]'(by omega)).f0 = 0)) : ∀ (n p : Nat), l.length ≤ p + n → 1 ≤ p → Evt (fun k => diffmatchpatch_DiffMatchPatch_DiffCleanupSemanticLossless.l0 k l (p : Int)) l := by
  intro n
  induction n with
  | zero =>
    intro p hn hp
    refine Evt.succ (fun k => by rw [diffmatchpatch_DiffMatchPatch_DiffCleanupSemanticLossless.l0]) ?_
    rw [wrap64_eq (n := (l.length : Int) - 1) (by omega) (by omega)]
    exact Evt.neg (by omega) (Evt.ret _)
  | succ n ih =>
    intro p hn hp
    by_cases h0 : p + 1 < l.length
    · have w1 : wrap64 ((p : Int) - 1) = ((p - 1 : Nat) : Int) := wsub1 p hp (by omega)
      have w2 : wrap64 ((p : Int) + 1) = ((p + 1 : Nat) : Int) := wadd1 p (by omega)
      have w3 : wrap64 ((l.length : Int) - 1) = ((l.length - 1 : Nat) : Int) := wsub1 l.length (by omega) (by omega)
      have go : Evt (fun k => diffmatchpatch_DiffMatchPatch_DiffCleanupSemanticLossless.j1 k l (p : Int) false) l := by
        refine Evt.succ (fun k => by rw [diffmatchpatch_DiffMatchPatch_DiffCleanupSemanticLossless.j1]) ?_
        refine Evt.neg (by simp) ?_
        rw [w2]
        exact ih (p + 1) (by omega) (by omega)
      refine Evt.succ (fun k => by rw [diffmatchpatch_DiffMatchPatch_DiffCleanupSemanticLossless.l0]) ?_
      rw [w1, w2, w3, rdG l _ (by omega), rdG l _ (by omega)]
      refine Evt.pos (by omega) (Evt.pos (by omega) (Evt.pos (by omega) ?_))
      by_cases e : (l[p - 1]'(by omega)).f0 = 0
      · refine Evt.pos e (Evt.pos (by omega) (Evt.pos (by omega) ?_))
        rw [show (((l[p + 1]'(by omega)).f0) == 0) = false from by have := h p h0 hp; simp; intro e2; exact this ⟨e, e2⟩]
        exact go
      · exact Evt.neg e go
    · refine Evt.succ (fun k => by rw [diffmatchpatch_DiffMatchPatch_DiffCleanupSemanticLossless.l0]) ?_
      rw [wrap64_eq (n := (l.length : Int) - 1) (by omega) (by omega)]
      exact Evt.neg (by omega) (Evt.ret _)
theorem laws_few (l : List DI) (hl : l.length ≤ 9223372036854775807) : Evt (fun k => laws_FnLosslessFew.f k l) true := by
  unfold laws_FnLosslessFew.f
  obtain ⟨b, hb, hbl⟩ := zzFits3 l hl
  refine Evt.bind hb ?_
  cases b with
  | false => exact Evt.neg (by simp) (Evt.ret _)
  | true =>
  refine Evt.pos rfl ?_
  obtain ⟨c, hc, hok⟩ := cleanASCII l
  refine Evt.bind hc ?_
  have aw : Evt (fun k => (laws_cleanAwake.f k).bind fun t => some t) true := Evt.bind awake (Evt.ret _)
  cases c with
  | false => exact Evt.neg (by simp) aw
  | true =>
  refine Evt.pos rfl ?_
  have ok := hok rfl
  have hl12 := ok.1
  have main : (∀ p (h2 : p + 1 < l.length), 1 ≤ p → ¬ ((l[p - 1]'(by omega)).f0 = 0 ∧ (l[p]'(by omega)).f0 ≠ 0 ∧ (l[p + 1]'(by omega)).f0 = 0)) → (∀ p (h2 : p < l.length), 1 ≤ p → (l[p - 1]'(by omega)).f0 ≠ (l[p]'(by omega)).f0) → Evt (fun k => (laws_cleanAwake.f k).bind fun t228 => (if t228 = true then ((laws_cleanOf.f k l).bind fun t229 => ((laws_cleanOwn.f l).bind fun t232 => ((impl_CleanLossless.f k t232).bind fun t235 => ((laws_cleanOf.f k t235).bind fun t238 => ((spec_CleanSame.f k t229 t238).bind fun t241 => (some t241)))))) else (some false))) true := by
    intro h1 h2
    have f0 : ∀ p (hp : p < l.length), ((l.map toG)[p]'(by simpa using hp)).f0 = (l[p]'hp).f0 := by
      intro p hp
      have := ok.2 _ (List.getElem_mem hp)
      rw [List.getElem_map]
      exact toG_f0 _ this.lo this.hi
    have hlen : (l.map toG).length = l.length := List.length_map ..
    have hn := lossless_none (l.map toG) (by omega) (fun p hp hp1 => by
      rw [hlen] at hp
      rw [f0 (p - 1) (by omega), f0 (p + 1) (by omega)]
      rintro ⟨g1, g2⟩
      exact h1 p hp hp1 ⟨g1, fun g3 => h2 p (by omega) hp1 (by rw [g1, g3]), g2⟩) l.length 1 (by omega) (by omega)
    have hback : (l.map toG).map toI = l := by
      rw [List.map_map]
      conv => rhs; rw [← List.map_id l]
      exact List.map_congr_left (fun y hy => toI_wrap y (ok.2 y hy).lo (ok.2 y hy).hi)
    have himpl : Evt (fun k => impl_CleanLossless.f k l) l := by
      unfold impl_CleanLossless.f
      refine Evt.obind (x := ()) rfl (Evt.bind (implDiffs l (by omega)) (Evt.bind (x := l.map toG) ?_ (Evt.bind ((implBack _ (by omega)).cast hback) (Evt.ret _))))
      unfold diffmatchpatch_DiffMatchPatch_DiffCleanupSemanticLossless.f
      exact hn
    refine Evt.bind awake (Evt.pos rfl (Evt.bind (cleanOf l (by omega)) (Evt.obind (cleanOwn l (by omega)) (Evt.bind himpl (Evt.bind (cleanOf l (by omega)) (Evt.bind (specSame _ (by simp; omega)) (Evt.ret _)))))))
  have second : (∀ p (h2 : p + 1 < l.length), 1 ≤ p → ¬ ((l[p - 1]'(by omega)).f0 = 0 ∧ (l[p]'(by omega)).f0 ≠ 0 ∧ (l[p + 1]'(by omega)).f0 = 0)) → ∀ (d i : Nat), l.length ≤ i + d → 1 ≤ i → (∀ p (h2 : p < l.length), 1 ≤ p → p < i → (l[p - 1]'(by omega)).f0 ≠ (l[p]'(by omega)).f0) → Evt (fun k => laws_FnLosslessFew.l1 k l (i : Int)) true := by
    intro h1 d
    induction d with
    | zero =>
      intro i hd hi hp
      refine Evt.succ (fun k => by rw [laws_FnLosslessFew.l1]) ?_
      exact Evt.neg (by omega) (main h1 (fun p h2 hp1 => hp p h2 hp1 (by omega)))
    | succ d ih =>
      intro i hd hi hp
      refine Evt.succ (fun k => by rw [laws_FnLosslessFew.l1]) ?_
      by_cases hlt : i < l.length
      · rw [wsub1 i hi (by omega), wadd1 i (by omega), rdI l _ (by omega), rdI l _ hlt]
        refine Evt.pos (by omega) (Evt.pos (by omega) (Evt.pos (by omega) (Evt.pos (by omega) ?_)))
        refine Evt.ite (fun _ => aw) (fun hne => ih (i + 1) (by omega) (by omega) (fun p h2 hp1 hpi => ?_))
        by_cases e : p = i
        · subst e; exact hne
        · exact hp p h2 hp1 (by omega)
      · exact Evt.neg (by omega) (main h1 (fun p h2 hp1 => hp p h2 hp1 (by omega)))
  have first : ∀ (d i : Nat), l.length ≤ i + d → 1 ≤ i → i ≤ l.length + 1 → (∀ p (h2 : p + 1 < l.length), 1 ≤ p → p < i → ¬ ((l[p - 1]'(by omega)).f0 = 0 ∧ (l[p]'(by omega)).f0 ≠ 0 ∧ (l[p + 1]'(by omega)).f0 = 0)) → Evt (fun k => laws_FnLosslessFew.l0 k l (i : Int)) true := by
    intro d
    induction d with
    | zero =>
      intro i hd hi hiu hp
      refine Evt.succ (fun k => by rw [laws_FnLosslessFew.l0]) ?_
      rw [wadd1 i (by omega)]
      exact Evt.neg (by omega) (second (fun p h2 hp1 => hp p h2 hp1 (by omega)) l.length 1 (by omega) (by omega) (fun p _ h3 h4 => by omega))
    | succ d ih =>
      intro i hd hi hiu hp
      refine Evt.succ (fun k => by rw [laws_FnLosslessFew.l0]) ?_
      rw [wadd1 i (by omega)]
      by_cases hlt : i + 1 < l.length
      · rw [wsub1 i hi (by omega), rdI l _ (by omega), rdI l _ (by omega), rdI l _ hlt]
        have nx : ¬ ((l[i - 1]'(by omega)).f0 = 0 ∧ (l[i]'(by omega)).f0 ≠ 0 ∧ (l[i + 1]'(by omega)).f0 = 0) → Evt (fun k => laws_FnLosslessFew.l0 k l ((i + 1 : Nat) : Int)) true := fun hne => ih (i + 1) (by omega) (by omega) (by omega) (fun p h2 hp1 hpi => by
          by_cases e : p = i
          · subst e; exact hne
          · exact hp p h2 hp1 (by omega))
        refine Evt.pos (by omega) (Evt.pos (by omega) (Evt.pos (by omega) ?_))
        refine Evt.ite (fun g1 => ?_) (fun g1 => nx (fun h => g1 h.1))
        refine Evt.pos (by omega) (Evt.pos (by omega) ?_)
        refine Evt.ite (fun g2 => nx (fun h => h.2.1 g2)) (fun g2 => ?_)
        refine Evt.pos (by omega) ?_
        exact Evt.ite (fun _ => aw) (fun g3 => nx (fun h => g3 h.2.2))
      · exact Evt.neg (by omega) (second (fun p h2 hp1 => hp p h2 hp1 (by omega)) l.length 1 (by omega) (by omega) (fun p _ h3 h4 => by omega))
  exact first l.length 1 (by omega) (by omega) (by omega) (fun p _ h3 h4 => by omega)
end Go.Proofs.YtaabfadjemmibaaDoor.P
namespace Go.Proofs.YtaabfadjemmibaaDoor.Pure
open Go.Proofs.YtaabfadjemmibaaDoorX Go.Proofs.YtaabfadjemmibaaDoor.P
theorem FnLosslessFew : ∀ (l0 : List S26), (l0.length ≤ 9223372036854775807 ∧ ∀ y ∈ l0, ((Lit.int .i64 y.f0).wf = true) ∧ (y.f1.size ≤ 9223372036854775807)) → ∃ k, laws_FnLosslessFew.f k l0 = some true :=
  fun l h => (laws_few l h.1).some_
end Go.Proofs.YtaabfadjemmibaaDoor.Pure
