import Derived.Test.YtmdgnglgabnhnaaDoorPx4
import Derived.Test.YtmdgnglgabnhnaaDoorQDiffs
/- The place of a byte in the second text: the package's loop and the reference's tell the same. -/
namespace Go.Proofs.YtmdgnglgabnhnaaDoor.P
open Go.RowKit Go.Proofs.YtmdgnglgabnhnaaDoorW.PrintWords Go.Proofs.YtmdgnglgabnhnaaDoorW.PrintMore Go.Proofs.YtmdgnglgabnhnaaDoorX
/-- The place, from what lies behind so far on. -/
def place : List S53 → Int → Int → Int → Int
  | [], p, a, b => b + p - a
  | y :: r, p, a, b =>
    if y.f0 = 1 then place r p a (b + y.f1.size)
    else if p < a + y.f1.size then (if y.f0 = 0 then b + p - a else b)
    else if y.f0 = -1 then place r p (a + y.f1.size) b else place r p (a + y.f1.size) (b + y.f1.size)
theorem wrap8x {n : Int} (h0 : -128 ≤ n) (h1 : n ≤ 127) : IntKind.i8.wrap n = n := IntWalk.i8_in _ (by omega)
theorem specPlace (l : List S53) (p : Int) (hp0 : 0 ≤ p) (hp : p ≤ 5000) (hl : l.length ≤ 20) (hall : ∀ y ∈ l, OkDiff y) : Evt (fun k => spec_DiffPlace.f k l p) (place l p 0 0) := by
  have loop : ∀ (d i : Nat) (a b : Int), i + d = l.length → 0 ≤ a → 0 ≤ b → a ≤ 160 * i → b ≤ 160 * i →
      Evt (fun k => spec_DiffPlace.l0 k p a b l (l.length : Int) (i : Int)) (place (l.drop i) p a b) := by
    intro d
    induction d with
    | zero =>
      intro i a b h h1 h2 h3 h4
      refine Evt.succ (fun k => by rw [spec_DiffPlace.l0]) (Evt.neg (by omega) ?_)
      rw [List.drop_eq_nil_of_le (by omega), wrap64_eq (n := b + p) (by omega) (by omega), wrap64_eq (by omega) (by omega)]
      exact Evt.ret _
    | succ d ih =>
      intro i a b h h1 h2 h3 h4
      have hi : i < l.length := by omega
      have hok := hall l[i] (List.getElem_mem hi)
      have hs := hok.size
      have hlo := hok.lo
      have hhi := hok.hi
      refine Evt.succ (fun k => by rw [spec_DiffPlace.l0]) (Evt.pos (by omega) (Evt.pos (by omega) (Evt.pos (by omega) ?_)))
      rw [rdDf l i hi, wrap64_eq (n := a + _) (by omega) (by omega)]
      rw [List.drop_eq_getElem_cons hi]
      simp only [place]
      refine Evt.ite (fun e => ?_) (fun e => ?_)
      · refine Evt.succ (fun k => by rw [spec_DiffPlace.j1]) (Evt.neg Bool.false_ne_true (Evt.pos e (Evt.neg (by omega) ?_)))
        rw [if_pos e, wrap64_eq (n := b + _) (by omega) (by omega), wrap64_eq (n := (i : Int) + 1) (by omega) (by omega)]
        exact ih (i + 1) _ _ (by omega) h1 (by omega) (by omega) (by omega)
      · rw [if_neg e]
        refine Evt.succ (fun k => by rw [spec_DiffPlace.j1]) ?_
        refine Evt.ite (fun c => ?_) (fun c => ?_)
        · rw [if_pos (of_decide_eq_true c), wrap64_eq (n := b + p) (by omega) (by omega), wrap64_eq (by omega) (by omega)]
          refine Evt.ite (fun z => ?_) (fun z => ?_)
          · rw [if_pos z]; exact Evt.ret _
          · rw [if_neg z]; exact Evt.ret _
        · rw [if_neg (fun hc => c (decide_eq_true hc)), wrap64_eq (n := a + _) (by omega) (by omega), wrap64_eq (n := b + _) (by omega) (by omega), wrap64_eq (n := (i : Int) + 1) (by omega) (by omega)]
          refine Evt.neg e ?_
          refine Evt.ite (fun z => ?_) (fun z => ?_)
          · rw [if_pos z]; exact ih (i + 1) _ _ (by omega) (by omega) (by omega) (by omega) (by omega)
          · rw [if_neg z]; exact ih (i + 1) _ _ (by omega) (by omega) (by omega) (by omega) (by omega)
  unfold spec_DiffPlace.f
  exact loop l.length 0 0 0 (by omega) (by omega) (by omega) (by omega) (by omega)
theorem dmpPlace (l : List S53) (p : Int) (hp0 : 0 ≤ p) (hp : p ≤ 5000) (hl : l.length ≤ 20) (hall : ∀ y ∈ l, OkDiff y) :
    Evt (fun k => diffmatchpatch_DiffMatchPatch_DiffXIndex.f k ((l.map toD).map toDmp) p) (place l p 0 0) := by
  have hlen : ((l.map toD).map toDmp).length = l.length := by simp
  have loop : ∀ (d i : Nat) (a b : Int), i + d = l.length → 0 ≤ a → 0 ≤ b → a ≤ 160 * i → b ≤ 160 * i → a ≤ p →
      Evt (fun k => diffmatchpatch_DiffMatchPatch_DiffXIndex.l0 k ((l.map toD).map toDmp) p a b a b (i : Int) 0 ⟨#[]⟩) (place (l.drop i) p a b) := by
    intro d
    induction d with
    | zero =>
      intro i a b h h1 h2 h3 h4 h5
      refine Evt.succ (fun k => by rw [diffmatchpatch_DiffMatchPatch_DiffXIndex.l0]) (Evt.neg (by omega) (Evt.neg (by omega) ?_))
      rw [List.drop_eq_nil_of_le (by omega), wrap64_eq (n := p - a) (by omega) (by omega), wrap64_eq (by omega) (by omega)]
      exact (Evt.ret _).cast (by simp only [place]; omega)
    | succ d ih =>
      intro i a b h h1 h2 h3 h4 h5
      have hi : i < l.length := by omega
      have hok := hall l[i] (List.getElem_mem hi)
      have hs := hok.size
      have hlo := hok.lo
      have hhi := hok.hi
      refine Evt.succ (fun k => by rw [diffmatchpatch_DiffMatchPatch_DiffXIndex.l0]) (Evt.pos (by omega) (Evt.pos (by omega) ?_))
      have e0 : (((l.map toD).map toDmp)[i]'(by omega)) = ⟨l[i].f0, l[i].f1⟩ := by
        simp [toD, toDmp, wrap8x (n := l[i].f0) (by omega) (by omega)]
      rw [rdDmp _ i (by omega), e0]
      rw [List.drop_eq_getElem_cons hi]
      simp only [place]
      refine Evt.ite (fun e => ?_) (fun e => ?_)
      · refine Evt.succ (fun k => by rw [diffmatchpatch_DiffMatchPatch_DiffXIndex.j1]) (Evt.neg (by omega) (Evt.neg (by omega) ?_))
        rw [if_pos e, wrap64_eq (n := b + _) (by omega) (by omega), wrap64_eq (n := (i : Int) + 1) (by omega) (by omega)]
        exact ih (i + 1) _ _ (by omega) h1 (by omega) (by omega) (by omega) h5
      · rw [if_neg e, wrap64_eq (n := a + _) (by omega) (by omega)]
        refine Evt.succ (fun k => by rw [diffmatchpatch_DiffMatchPatch_DiffXIndex.j1]) ?_
        refine Evt.ite (fun z => ?_) (fun z => ?_)
        · refine Evt.ite (fun c => ?_) (fun c => ?_)
          · rw [if_pos (by omega), if_neg (by omega)]; exact Evt.ret _
          · rw [if_neg (by omega), if_pos z, wrap64_eq (n := (i : Int) + 1) (by omega) (by omega)]
            exact ih (i + 1) _ _ (by omega) (by omega) (by omega) (by omega) (by omega) (by omega)
        · refine Evt.ite (fun c => ?_) (fun c => ?_)
          · rw [if_pos (by omega), if_pos (by omega), wrap64_eq (n := p - a) (by omega) (by omega), wrap64_eq (by omega) (by omega)]
            exact (Evt.ret _).cast (by omega)
          · rw [if_neg (by omega), if_neg z, wrap64_eq (n := b + _) (by omega) (by omega), wrap64_eq (n := (i : Int) + 1) (by omega) (by omega)]
            exact ih (i + 1) _ _ (by omega) (by omega) (by omega) (by omega) (by omega) (by omega)
  unfold diffmatchpatch_DiffMatchPatch_DiffXIndex.f
  exact loop l.length 0 0 0 (by omega) (by omega) (by omega) (by omega) (by omega) hp0
theorem implPlace (l : List S53) (p : Int) (hp0 : 0 ≤ p) (hp : p ≤ 5000) (hl : l.length ≤ 20) (hall : ∀ y ∈ l, OkDiff y) : Evt (fun k => impl_XIndex.f k (l.map toD) p) (place l p 0 0) := by
  unfold impl_XIndex.f
  refine Evt.obind (x := ()) rfl ?_
  refine Evt.bind (implDiffs _ (by simp; omega)) ?_
  exact Evt.bind (dmpPlace l p hp0 hp hl hall) (Evt.ret _)
end Go.Proofs.YtmdgnglgabnhnaaDoor.P
namespace Go.Proofs.YtmdgnglgabnhnaaDoor.Pure
open Go.Proofs.YtmdgnglgabnhnaaDoorX Go.Proofs.YtmdgnglgabnhnaaDoor.P
theorem FnXIndex : ∀ (l0 : List S53) (a1 : Int), (l0.length ≤ 9223372036854775807 ∧ ∀ y ∈ l0, ((Lit.int .i64 y.f0).wf = true) ∧ (y.f1.size ≤ 9223372036854775807)) → ((Lit.int .i64 a1).wf = true) → ∃ k, laws_FnXIndex.f k l0 a1 = some true := by
  intro l p ⟨hl, _⟩ _
  refine Evt.some_ (g := fun k => laws_FnXIndex.f k l p) ?_
  have early : Evt (fun k => laws_FnXIndex.j0 k l p true) true := by
    refine Evt.succ (fun k => by rw [laws_FnXIndex.j0]) ?_
    exact Evt.pos rfl (Evt.ret _)
  unfold laws_FnXIndex.f
  obtain ⟨b, hb⟩ := zzFits1 l hl
  refine Evt.bind hb ?_
  refine Evt.ite (fun _ => ?_) (fun _ => Evt.ret _)
  obtain ⟨q, hq, hall⟩ := isDiffs l
  refine Evt.bind hq ?_
  refine Evt.ite (fun h => ?_) (fun _ => early)
  obtain ⟨hl20, hall⟩ := hall h
  refine Evt.ite (fun _ => early) (fun hp0 => ?_)
  by_cases hp : p > 5000
  · rw [decide_eq_true hp]; exact early
  rw [decide_eq_false hp]
  refine Evt.succ (fun k => by rw [laws_FnXIndex.j0]) (Evt.neg Bool.false_ne_true ?_)
  refine Evt.bind (diffTo l (by omega)) (Evt.bind (implPlace l p (by omega) (by omega) hl20 hall) (Evt.bind (specPlace l p (by omega) (by omega) hl20 hall) ?_))
  refine Evt.pos rfl ?_
  have ht := implPlace [⟨1, ⟨#[97, 98]⟩⟩, ⟨0, ⟨#[99]⟩⟩] 0 (by decide) (by decide) (by decide) (fun y hy => by
    simp only [List.mem_cons, List.not_mem_nil, or_false] at hy
    rcases hy with rfl | rfl
    · exact ⟨by decide, by decide, by rw [ByteArray.toList_eq]; decide, by decide, by decide, by decide⟩
    · exact ⟨by decide, by decide, by rw [ByteArray.toList_eq]; decide, by decide, by decide, by decide⟩)
  refine Evt.bind ht ?_
  exact (Evt.ret _).cast (by decide)
end Go.Proofs.YtmdgnglgabnhnaaDoor.Pure
