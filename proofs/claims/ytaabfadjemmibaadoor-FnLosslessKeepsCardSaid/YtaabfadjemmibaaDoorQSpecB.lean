import Derived.Test.YtaabfadjemmibaaDoorQClean
import Derived.Test.YtaabfadjemmibaaDoorPx8
import Derived.Test.YtaabfadjemmibaaDoorPx7
/- The specification's words on lists of differences: sides, the same. -/
namespace Go.Proofs.YtaabfadjemmibaaDoor.P
open Go.RowKit Go.Lib Go.Proofs.YtaabfadjemmibaaDoorW.PrintWords Go.Proofs.YtaabfadjemmibaaDoorX
/-- The bytes of all differences but those of a type. -/
def sideS (but : Int) (l : List DS) : List UInt8 := l.flatMap fun d => if d.f0 = but then [] else B d.f1
theorem sideS_cons (but : Int) (d : DS) (l : List DS) : sideS but (d :: l) = (if d.f0 = but then [] else B d.f1) ++ sideS but l := by simp [sideS]
def totS (l : List DS) : Nat := (l.map (fun d => d.f1.size)).sum
theorem totS_cons (d : DS) (l : List DS) : totS (d :: l) = d.f1.size + totS l := by simp [totS]
theorem specSide (l : List DS) (but : Int) (hl : l.length ≤ 2147483647) (ht : totS l ≤ 2147483647) : ∃ r, Evt (fun k => spec_CleanSide.f k l but) r ∧ B r = sideS but l := by
  have loop : ∀ (d i : Nat) (acc : ByteArray), i + d = l.length → acc.size + totS (l.drop i) ≤ 2147483647 → ∃ r, Evt (fun k => spec_CleanSide.l0 k but acc l (l.length : Int) (i : Int)) r ∧ B r = B acc ++ sideS but (l.drop i) := by
    intro d
    induction d with
    | zero =>
      intro i acc h _
      refine ⟨acc, ?_, by rw [List.drop_eq_nil_of_le (by omega)]; simp [sideS]⟩
      refine Evt.succ (fun k => by rw [spec_CleanSide.l0]) ?_
      repeat (first | (refine Evt.pos (by omega) ?_) | (refine Evt.neg (by omega) ?_))
      exact Evt.ret _
    | succ d ih =>
      intro i acc h ha
      have hi : i < l.length := by omega
      have hd := List.drop_eq_getElem_cons hi
      rw [hd, totS_cons] at ha
      by_cases hb : l[i].f0 = but
      · obtain ⟨r, hr, hrb⟩ := ih (i + 1) acc (by omega) (by omega)
        refine ⟨r, ?_, by rw [hrb, hd, sideS_cons, if_pos hb]; rfl⟩
        refine Evt.succ (fun k => by rw [spec_CleanSide.l0]) ?_
        rw [rdS l i hi, wadd1 i (by omega)]
        exact Evt.pos (by omega) (Evt.pos (by omega) (Evt.pos (by omega) (Evt.pos hb hr)))
      · obtain ⟨r, hr, hrb⟩ := ih (i + 1) (acc ++ l[i].f1) (by omega) (by rw [size_app]; omega)
        refine ⟨r, ?_, by rw [hrb, hd, sideS_cons, if_neg hb, B_append, List.append_assoc]⟩
        refine Evt.succ (fun k => by rw [spec_CleanSide.l0]) ?_
        rw [rdS l i hi, wadd1 i (by omega)]
        exact Evt.pos (by omega) (Evt.pos (by omega) (Evt.pos (by omega) (Evt.neg hb (Evt.pos (by omega) hr))))
  obtain ⟨r, hr, hb⟩ := loop l.length 0 ⟨#[]⟩ (by omega) (by simp only [List.drop_zero]; show 0 + _ ≤ _; omega)
  exact ⟨r, hr, by rw [hb]; simp [B_nil]⟩
theorem specKept (a b : List DS) (la : a.length ≤ 2147483647) (lb : b.length ≤ 2147483647) (ta : totS a ≤ 2147483647) (tb : totS b ≤ 2147483647) (h1 : sideS 1 a = sideS 1 b) (h2 : sideS (-1) a = sideS (-1) b) : Evt (fun k => spec_CleanKept.f k a b) true := by
  obtain ⟨r1, e1, g1⟩ := specSide a 1 la ta
  obtain ⟨r2, e2, g2⟩ := specSide b 1 lb tb
  obtain ⟨r3, e3, g3⟩ := specSide a (-1) la ta
  obtain ⟨r4, e4, g4⟩ := specSide b (-1) lb tb
  unfold spec_CleanKept.f
  refine Evt.bind e1 (Evt.bind e2 (Evt.pos ?_ (Evt.bind e3 (Evt.bind e4 ?_))))
  · rw [B_toList, B_toList, g1, g2, h1]
  · refine (Evt.ret _).cast ?_
    rw [B_toList, B_toList, g3, g4, h2]
    simp
theorem specSame (a : List DS) (la : a.length ≤ 2147483647) : Evt (fun k => spec_CleanSame.f k a a) true := by
  have loop : ∀ (d i : Nat), i + d = a.length → Evt (fun k => spec_CleanSame.l0 k a a (a.length : Int) (i : Int)) true := by
    intro d
    induction d with
    | zero =>
      intro i h
      refine Evt.succ (fun k => by rw [spec_CleanSame.l0]) ?_
      repeat (first | (refine Evt.pos (by omega) ?_) | (refine Evt.neg (by omega) ?_))
      exact Evt.ret _
    | succ d ih =>
      intro i h
      refine Evt.succ (fun k => by rw [spec_CleanSame.l0]) ?_
      rw [wadd1 i (by omega)]
      refine Evt.pos (by omega) (Evt.pos (by omega) (Evt.pos (by omega) (Evt.pos (by omega) (Evt.neg (by simp) (ih (i + 1) (by omega))))))
  unfold spec_CleanSame.f
  exact Evt.pos rfl (loop a.length 0 (by omega))
theorem i8w : IntKind.i8.wrap (-1) = -1 ∧ IntKind.i8.wrap 0 = 0 ∧ IntKind.i8.wrap 1 = 1 := by decide
theorem w64s : wrap64 (-1) = -1 ∧ wrap64 0 = 0 ∧ wrap64 1 = 1 := ⟨wrap64_eq (by omega) (by omega), wrap64_eq (by omega) (by omega), wrap64_eq (by omega) (by omega)⟩
theorem toI_wrap (y : DI) (h : -1 ≤ y.f0) (h' : y.f0 ≤ 1) : toI (toG y) = y := by
  obtain ⟨t, s⟩ := y
  simp only at h h'
  have e : t = -1 ∨ t = 0 ∨ t = 1 := by omega
  unfold toI toG
  rcases e with rfl | rfl | rfl <;> simp [i8w, w64s]
theorem totS_map (l : List DI) : totS (l.map toS) = (l.map (fun d => d.f1.size)).sum := by simp [totS, toS]; rfl
end Go.Proofs.YtaabfadjemmibaaDoor.P
