import Derived.Test.YtmdgnglgabnhnaaDoorPx3
import Derived.Test.YtmdgnglgabnhnaaDoorQDiffs
/- The Levenshtein distance of a difference: the package's loop and the reference's tell the same sum. -/
namespace Go.Proofs.YtmdgnglgabnhnaaDoor.P
open Go.RowKit Go.Proofs.YtmdgnglgabnhnaaDoorW.PrintWords Go.Proofs.YtmdgnglgabnhnaaDoorW.PrintMore Go.Proofs.YtmdgnglgabnhnaaDoorX
/-- The sum, from what has been counted so far on. -/
def lev : List S53 → Int → Int → Int → Int
  | [], s, i, d => s + mx i d
  | y :: r, s, i, d => if y.f0 = 1 then lev r s (i + Lib.runeCount y.f1) d else if y.f0 = -1 then lev r s i (d + Lib.runeCount y.f1) else lev r (s + mx i d) 0 0
theorem mx_le {a b c : Int} (h1 : a ≤ c) (h2 : b ≤ c) : mx a b ≤ c := by unfold mx; split <;> assumption
theorem mx_ge {a b c : Int} (h1 : c ≤ a) (h2 : c ≤ b) : c ≤ mx a b := by unfold mx; split <;> assumption
theorem maxf (a b : Int) : diffmatchpatch_max.f a b = some (mx a b) := by
  unfold diffmatchpatch_max.f mx
  by_cases h : a > b
  · rw [if_pos h, if_neg (by omega)]
  · rw [if_neg h]
    split
    · rfl
    · congr 1; omega
theorem specDist (l : List S53) (hl : l.length ≤ 20) (hall : ∀ y ∈ l, OkDiff y) : Evt (fun k => spec_DiffDistance.f k l) (lev l 0 0 0) := by
  have loop : ∀ (d i : Nat) (s a b : Int), i + d = l.length → 0 ≤ s → 0 ≤ a → 0 ≤ b → s + a + b ≤ 50 * i →
      Evt (fun k => spec_DiffDistance.l0 k s a b l (l.length : Int) (i : Int)) (lev (l.drop i) s a b) := by
    intro d
    induction d with
    | zero =>
      intro i s a b h h1 h2 h3 h4
      refine Evt.succ (fun k => by rw [spec_DiffDistance.l0]) (Evt.neg (by omega) ?_)
      rw [List.drop_eq_nil_of_le (by omega), wrap64_eq (by have := mx_ge h2 h3; omega) (by have := mx_le (c := a + b) (a := a) (b := b) (by omega) (by omega); omega)]
      exact Evt.ret _
    | succ d ih =>
      intro i s a b h h1 h2 h3 h4
      have hi : i < l.length := by omega
      have hok := hall l[i] (List.getElem_mem hi)
      have hc := hok.few
      have hm1 := mx_ge h2 h3
      have hm2 := mx_le (c := a + b) (a := a) (b := b) (by omega) (by omega)
      refine Evt.succ (fun k => by rw [spec_DiffDistance.l0]) (Evt.pos (by omega) (Evt.pos (by omega) (Evt.pos (by omega) ?_)))
      rw [rdDf l i hi, wrap64_eq (n := (i : Int) + 1) (by omega) (by omega)]
      refine Evt.obind (count_f _ (by have := hok.size; omega)) ?_
      rw [wrap64_eq (n := a + _) (by omega) (by omega), wrap64_eq (n := b + _) (by omega) (by omega), wrap64_eq (n := s + _) (by omega) (by omega)]
      rw [List.drop_eq_getElem_cons hi]
      simp only [lev]
      refine Evt.ite (fun e => ?_) (fun e => ?_)
      · rw [if_pos e]; exact ih (i + 1) _ _ _ (by omega) h1 (by omega) h3 (by omega)
      rw [if_neg e]
      refine Evt.ite (fun e2 => ?_) (fun e2 => ?_)
      · rw [if_pos e2]; exact ih (i + 1) _ _ _ (by omega) h1 h2 (by omega) (by omega)
      · rw [if_neg e2]; exact ih (i + 1) _ _ _ (by omega) (by omega) (by omega) (by omega) (by omega)
  unfold spec_DiffDistance.f
  exact loop l.length 0 0 0 0 (by omega) (by omega) (by omega) (by omega) (by omega)
theorem wrap8 {n : Int} (h0 : -128 ≤ n) (h1 : n ≤ 127) : IntKind.i8.wrap n = n := IntWalk.i8_in _ (by omega)
theorem dmpDist (l : List S53) (hl : l.length ≤ 20) (hall : ∀ y ∈ l, OkDiff y) : Evt (fun k => diffmatchpatch_DiffMatchPatch_DiffLevenshtein.f k ((l.map toD).map toDmp)) (lev l 0 0 0) := by
  have hlen : ((l.map toD).map toDmp).length = l.length := by simp
  have loop : ∀ (d i : Nat) (s a b : Int), i + d = l.length → 0 ≤ s → 0 ≤ a → 0 ≤ b → s + a + b ≤ 50 * i →
      Evt (fun k => diffmatchpatch_DiffMatchPatch_DiffLevenshtein.l0 k s a b ((l.map toD).map toDmp) (((l.map toD).map toDmp).length : Int) (i : Int)) (lev (l.drop i) s a b) := by
    intro d
    induction d with
    | zero =>
      intro i s a b h h1 h2 h3 h4
      refine Evt.succ (fun k => by rw [diffmatchpatch_DiffMatchPatch_DiffLevenshtein.l0]) (Evt.neg (by omega) ?_)
      refine Evt.obind (maxf _ _) ?_
      rw [List.drop_eq_nil_of_le (by omega), wrap64_eq (by have := mx_ge h2 h3; omega) (by have := mx_le (c := a + b) (a := a) (b := b) (by omega) (by omega); omega)]
      exact Evt.ret _
    | succ d ih =>
      intro i s a b h h1 h2 h3 h4
      have hi : i < l.length := by omega
      have hok := hall l[i] (List.getElem_mem hi)
      have hc := hok.few
      have hlo := hok.lo
      have hhi := hok.hi
      have hm1 := mx_ge h2 h3
      have hm2 := mx_le (c := a + b) (a := a) (b := b) (by omega) (by omega)
      refine Evt.succ (fun k => by rw [diffmatchpatch_DiffMatchPatch_DiffLevenshtein.l0]) (Evt.pos (by omega) (Evt.pos (by omega) (Evt.pos (by omega) ?_)))
      rw [rdDmp _ i (by omega), wrap64_eq (n := (i : Int) + 1) (by omega) (by omega)]
      have e0 : (((l.map toD).map toDmp)[i]'(by omega)) = ⟨l[i].f0, l[i].f1⟩ := by
        simp [toD, toDmp, wrap8 (n := l[i].f0) (by omega) (by omega)]
      rw [e0, List.drop_eq_getElem_cons hi]
      simp only [lev]
      refine Evt.ite (fun e => ?_) (fun e => ?_)
      · rw [if_pos e]
        refine Evt.obind (count_f _ (by have := hok.size; omega)) ?_
        rw [wrap64_eq (n := a + _) (by omega) (by omega)]
        exact ih (i + 1) _ _ _ (by omega) h1 (by omega) h3 (by omega)
      rw [if_neg e]
      refine Evt.ite (fun e2 => ?_) (fun e2 => ?_)
      · rw [if_pos e2]
        refine Evt.obind (count_f _ (by have := hok.size; omega)) ?_
        rw [wrap64_eq (n := b + _) (by omega) (by omega)]
        exact ih (i + 1) _ _ _ (by omega) h1 h2 (by omega) (by omega)
      · rw [if_neg e2]
        refine Evt.pos (by omega) ?_
        refine Evt.obind (maxf _ _) ?_
        rw [wrap64_eq (n := s + _) (by omega) (by omega)]
        exact ih (i + 1) _ _ _ (by omega) (by omega) (by omega) (by omega) (by omega)
  unfold diffmatchpatch_DiffMatchPatch_DiffLevenshtein.f
  exact loop l.length 0 0 0 0 (by omega) (by omega) (by omega) (by omega) (by omega)
theorem implDist (l : List S53) (hl : l.length ≤ 20) (hall : ∀ y ∈ l, OkDiff y) : Evt (fun k => impl_Levenshtein.f k (l.map toD)) (lev l 0 0 0) := by
  unfold impl_Levenshtein.f
  refine Evt.obind (x := ()) rfl ?_
  refine Evt.bind (implDiffs _ (by simp; omega)) ?_
  exact Evt.bind (dmpDist l hl hall) (Evt.ret _)
end Go.Proofs.YtmdgnglgabnhnaaDoor.P
namespace Go.Proofs.YtmdgnglgabnhnaaDoor.Pure
open Go.Proofs.YtmdgnglgabnhnaaDoorX Go.Proofs.YtmdgnglgabnhnaaDoor.P
theorem FnLevenshtein : ∀ (l0 : List S53), (l0.length ≤ 9223372036854775807 ∧ ∀ y ∈ l0, ((Lit.int .i64 y.f0).wf = true) ∧ (y.f1.size ≤ 9223372036854775807)) → ∃ k, laws_FnLevenshtein.f k l0 = some true := by
  intro l ⟨hl, _⟩
  refine Evt.some_ (g := fun k => laws_FnLevenshtein.f k l) ?_
  unfold laws_FnLevenshtein.f
  obtain ⟨b, hb⟩ := zzFits1 l hl
  refine Evt.bind hb ?_
  refine Evt.ite (fun _ => ?_) (fun _ => Evt.ret _)
  obtain ⟨q, hq, hall⟩ := isDiffs l
  refine Evt.bind hq ?_
  refine Evt.ite (fun h => ?_) (fun _ => Evt.ret _)
  obtain ⟨hl20, hall⟩ := hall h
  refine Evt.bind (diffTo l (by omega)) (Evt.bind (implDist l hl20 hall) (Evt.bind (specDist l hl20 hall) ?_))
  refine Evt.pos rfl ?_
  have ht := implDist [⟨1, ⟨#[97, 98]⟩⟩] (by decide) (fun y hy => by
    obtain rfl := List.mem_singleton.1 hy
    exact ⟨by decide, by decide, by rw [ByteArray.toList_eq]; decide, by decide, by decide, by decide⟩)
  refine Evt.bind ht ?_
  exact (Evt.ret _).cast (by decide)
end Go.Proofs.YtmdgnglgabnhnaaDoor.Pure
