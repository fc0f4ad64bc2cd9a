import Derived.Test.YtmdgnglgabnhnaaDoorPx2
import Derived.Test.YtmdgnglgabnhnaaDoorQDiffs
import Derived.Lib.SmallJoins
/- The texts of a difference: the package's buffer and the reference's sums hold the same bytes. -/
namespace Go.Proofs.YtmdgnglgabnhnaaDoor.P
open Go.RowKit Go.Proofs.YtmdgnglgabnhnaaDoorW.PrintWords Go.Proofs.YtmdgnglgabnhnaaDoorW.PrintMore Go.Proofs.YtmdgnglgabnhnaaDoorX
theorem wrap8 {n : Int} (h0 : -128 ≤ n) (h1 : n ≤ 127) : IntKind.i8.wrap n = n := IntWalk.i8_in _ (by omega)
/-- The bytes of the pieces but those of one type. -/
def bytesBut (no : Int) (l : List S53) : List UInt8 := l.flatMap fun y => if y.f0 = no then [] else y.f1.data.toList
theorem bytesBut_cons (no : Int) (y : S53) (r : List S53) : bytesBut no (y :: r) = (if y.f0 = no then [] else y.f1.data.toList) ++ bytesBut no r := by simp [bytesBut]
theorem dlen (a : ByteArray) : a.data.toList.length = a.size := Array.length_toList
theorem textBut_eq (no : Int) : ∀ (l : List S53) (acc : List UInt8), (∀ y ∈ l, OkDiff y) → acc.length + 160 * l.length ≤ 100000 → textBut no ((l.map toD).map toDmp) acc = some ⟨(acc ++ bytesBut no l).toArray⟩
  | [], acc, _, _ => by simp [textBut, bytesBut]
  | y :: r, acc, h, hb => by
    have hok := h y (List.mem_cons_self)
    have e0 : toDmp (toD y) = ⟨y.f0, y.f1⟩ := by
      have := hok.lo
      have := hok.hi
      simp [toD, toDmp, wrap8 (n := y.f0) (by omega) (by omega)]
    have hr : ∀ z ∈ r, OkDiff z := fun z hz => h z (List.mem_cons_of_mem _ hz)
    have hs := hok.size
    rw [List.length_cons] at hb
    rw [List.map_cons, List.map_cons, e0, bytesBut_cons]
    simp only [textBut]
    by_cases c : y.f0 = no
    · rw [if_pos c, if_pos c, List.nil_append]
      exact textBut_eq no r acc hr (by omega)
    · rw [if_neg c, if_neg c, if_pos (by omega), textBut_eq no r _ hr (by rw [List.length_append, dlen]; omega), List.append_assoc]
theorem specFirst (l : List S53) (hl : l.length ≤ 20) (hall : ∀ y ∈ l, OkDiff y) : ∃ r, Evt (fun k => spec_DiffFirst.f k l) r ∧ r.data.toList = bytesBut (1) l := by
  have loop : ∀ (d i : Nat) (acc : ByteArray), i + d = l.length → acc.size ≤ 160 * i → ∃ r, Evt (fun k => spec_DiffFirst.l0 k acc l (l.length : Int) (i : Int)) r ∧ r.data.toList = acc.data.toList ++ bytesBut (1) (l.drop i) := by
    intro d
    induction d with
    | zero =>
      intro i acc h h1
      refine ⟨acc, Evt.succ (fun k => by rw [spec_DiffFirst.l0]) (Evt.neg (by omega) (Evt.ret _)), ?_⟩
      rw [List.drop_eq_nil_of_le (by omega)]
      simp [bytesBut]
    | succ d ih =>
      intro i acc h h1
      have hi : i < l.length := by omega
      have hok := hall l[i] (List.getElem_mem hi)
      have hs := hok.size
      rw [List.drop_eq_getElem_cons hi, bytesBut_cons]
      by_cases c : l[i].f0 = (1)
      · obtain ⟨r, h2, h3⟩ := ih (i + 1) acc (by omega) (by omega)
        refine ⟨r, Evt.succ (fun k => by rw [spec_DiffFirst.l0]) (Evt.pos (by omega) (Evt.pos (by omega) (Evt.pos (by omega) ?_))), ?_⟩
        · rw [rdDf _ i hi, wadd1 i (by omega)]
          exact Evt.pos c h2
        · rw [h3, if_pos c, List.nil_append]
      · obtain ⟨r, h2, h3⟩ := ih (i + 1) (acc ++ l[i].f1) (by omega) (by rw [ByteArray.size_append]; omega)
        refine ⟨r, Evt.succ (fun k => by rw [spec_DiffFirst.l0]) (Evt.pos (by omega) (Evt.pos (by omega) (Evt.pos (by omega) ?_))), ?_⟩
        · rw [rdDf _ i hi, wadd1 i (by omega)]
          exact Evt.neg c (Evt.pos (by omega) h2)
        · rw [h3, if_neg c, Go.Joins.data_append, List.append_assoc]
  obtain ⟨r, h1, h2⟩ := loop l.length 0 ⟨#[]⟩ (by omega) (by decide)
  exact ⟨r, h1, by rw [h2]; rfl⟩
theorem implText1 (l : List S53) (hl : l.length ≤ 20) (hall : ∀ y ∈ l, OkDiff y) : Evt (fun k => impl_Text1.f k (l.map toD)) ⟨(bytesBut (1) l).toArray⟩ := by
  unfold impl_Text1.f
  refine Evt.obind (x := ()) rfl ?_
  refine Evt.bind (implDiffs _ (by simp; omega)) ?_
  refine Evt.obind (x := ⟨(bytesBut (1) l).toArray⟩) ?_ (Evt.ret _)
  unfold diffmatchpatch_DiffMatchPatch_DiffText1.f
  rw [if_pos (by simp; omega), textBut_eq _ _ _ hall (by simp; omega)]
  rfl
theorem specSecond (l : List S53) (hl : l.length ≤ 20) (hall : ∀ y ∈ l, OkDiff y) : ∃ r, Evt (fun k => spec_DiffSecond.f k l) r ∧ r.data.toList = bytesBut (-1) l := by
  have loop : ∀ (d i : Nat) (acc : ByteArray), i + d = l.length → acc.size ≤ 160 * i → ∃ r, Evt (fun k => spec_DiffSecond.l0 k acc l (l.length : Int) (i : Int)) r ∧ r.data.toList = acc.data.toList ++ bytesBut (-1) (l.drop i) := by
    intro d
    induction d with
    | zero =>
      intro i acc h h1
      refine ⟨acc, Evt.succ (fun k => by rw [spec_DiffSecond.l0]) (Evt.neg (by omega) (Evt.ret _)), ?_⟩
      rw [List.drop_eq_nil_of_le (by omega)]
      simp [bytesBut]
    | succ d ih =>
      intro i acc h h1
      have hi : i < l.length := by omega
      have hok := hall l[i] (List.getElem_mem hi)
      have hs := hok.size
      rw [List.drop_eq_getElem_cons hi, bytesBut_cons]
      by_cases c : l[i].f0 = (-1)
      · obtain ⟨r, h2, h3⟩ := ih (i + 1) acc (by omega) (by omega)
        refine ⟨r, Evt.succ (fun k => by rw [spec_DiffSecond.l0]) (Evt.pos (by omega) (Evt.pos (by omega) (Evt.pos (by omega) ?_))), ?_⟩
        · rw [rdDf _ i hi, wadd1 i (by omega)]
          exact Evt.pos c h2
        · rw [h3, if_pos c, List.nil_append]
      · obtain ⟨r, h2, h3⟩ := ih (i + 1) (acc ++ l[i].f1) (by omega) (by rw [ByteArray.size_append]; omega)
        refine ⟨r, Evt.succ (fun k => by rw [spec_DiffSecond.l0]) (Evt.pos (by omega) (Evt.pos (by omega) (Evt.pos (by omega) ?_))), ?_⟩
        · rw [rdDf _ i hi, wadd1 i (by omega)]
          exact Evt.neg c (Evt.pos (by omega) h2)
        · rw [h3, if_neg c, Go.Joins.data_append, List.append_assoc]
  obtain ⟨r, h1, h2⟩ := loop l.length 0 ⟨#[]⟩ (by omega) (by decide)
  exact ⟨r, h1, by rw [h2]; rfl⟩
theorem implText2 (l : List S53) (hl : l.length ≤ 20) (hall : ∀ y ∈ l, OkDiff y) : Evt (fun k => impl_Text2.f k (l.map toD)) ⟨(bytesBut (-1) l).toArray⟩ := by
  unfold impl_Text2.f
  refine Evt.obind (x := ()) rfl ?_
  refine Evt.bind (implDiffs _ (by simp; omega)) ?_
  refine Evt.obind (x := ⟨(bytesBut (-1) l).toArray⟩) ?_ (Evt.ret _)
  unfold diffmatchpatch_DiffMatchPatch_DiffText2.f
  rw [if_pos (by simp; omega), textBut_eq _ _ _ hall (by simp; omega)]
  rfl
end Go.Proofs.YtmdgnglgabnhnaaDoor.P
namespace Go.Proofs.YtmdgnglgabnhnaaDoor.Pure
open Go.Proofs.YtmdgnglgabnhnaaDoorX Go.Proofs.YtmdgnglgabnhnaaDoor.P
theorem FnTexts : ∀ (l0 : List S53), (l0.length ≤ 9223372036854775807 ∧ ∀ y ∈ l0, ((Lit.int .i64 y.f0).wf = true) ∧ (y.f1.size ≤ 9223372036854775807)) → ∃ k, laws_FnTexts.f k l0 = some true := by
  intro l ⟨hl, _⟩
  refine Evt.some_ (g := fun k => laws_FnTexts.f k l) ?_
  unfold laws_FnTexts.f
  obtain ⟨b, hb⟩ := zzFits1 l hl
  refine Evt.bind hb ?_
  refine Evt.ite (fun _ => ?_) (fun _ => Evt.ret _)
  obtain ⟨q, hq, hall⟩ := isDiffs l
  refine Evt.bind hq ?_
  refine Evt.ite (fun h => ?_) (fun _ => Evt.ret _)
  obtain ⟨hl20, hall⟩ := hall h
  obtain ⟨r1, h1, e1⟩ := specFirst l hl20 hall
  obtain ⟨r2, h2, e2⟩ := specSecond l hl20 hall
  refine Evt.bind (diffTo l (by omega)) (Evt.bind (implText1 l hl20 hall) (Evt.bind h1 ?_))
  refine Evt.pos (by rw [ByteArray.toList_eq, ByteArray.toList_eq, e1]) ?_
  refine Evt.bind (diffTo l (by omega)) (Evt.bind (implText2 l hl20 hall) (Evt.bind h2 ?_))
  refine Evt.pos (by rw [ByteArray.toList_eq, ByteArray.toList_eq, e2]) ?_
  have ht := implText1 [⟨-1, ⟨#[97]⟩⟩] (by decide) (fun y hy => by
    obtain rfl := List.mem_singleton.1 hy
    exact ⟨by decide, by decide, by rw [ByteArray.toList_eq]; decide, by decide, by decide, by decide⟩)
  refine Evt.bind ht ((Evt.ret _).cast ?_)
  rw [ByteArray.toList_eq]
  rfl
end Go.Proofs.YtmdgnglgabnhnaaDoor.Pure
