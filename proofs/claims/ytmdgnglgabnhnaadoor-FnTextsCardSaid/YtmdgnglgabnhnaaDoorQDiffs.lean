import Derived.Test.YtmdgnglgabnhnaaDoorQText
import Derived.Test.YtmdgnglgabnhnaaDoorPx1
/- Lists of differences: what the guards say; how they are turned. -/
namespace Go.Proofs.YtmdgnglgabnhnaaDoor.P
open Go.RowKit Go.Proofs.YtmdgnglgabnhnaaDoorW.PrintWords Go.Proofs.YtmdgnglgabnhnaaDoorX
theorem rdDf (l : List S53) (i : Nat) (h : i < l.length) : rd_T53 l (i : Int) = l[i] := by
  simp [rd_T53, List.getD_eq_getElem?_getD, List.getElem?_eq_getElem h]
theorem rdD (l : List S33) (i : Nat) (h : i < l.length) : rd_T33 l (i : Int) = l[i] := by
  simp [rd_T33, List.getD_eq_getElem?_getD, List.getElem?_eq_getElem h]
theorem rdDmp (l : List S76) (i : Nat) (h : i < l.length) : rd_T76 l (i : Int) = l[i] := by
  simp [rd_T76, List.getD_eq_getElem?_getD, List.getElem?_eq_getElem h]
/-- What 'spec.IsDiffs' says of a piece. -/
structure OkDiff (y : S53) : Prop where
  lo : -1 ≤ y.f0
  hi : y.f0 ≤ 1
  some_ : y.f1.toList ≠ []
  size : y.f1.size ≤ 160
  valid : Lib.validD y.f1.data.toList = true
  few : Lib.runeCount y.f1 ≤ 40
theorem zzFits1 (l : List S53) (hl : l.length ≤ 9223372036854775807) : ∃ b, Evt (fun k => laws_zzFits1.f k l) b := by
  have loop : ∀ (d i : Nat), i + d = l.length → ∃ b, Evt (fun k => laws_zzFits1.l0 k l (l.length : Int) (i : Int)) b := by
    intro d
    induction d with
    | zero =>
      intro i h
      exact ⟨true, Evt.succ (fun k => by rw [laws_zzFits1.l0]) (Evt.neg (by omega) (Evt.ret _))⟩
    | succ d ih =>
      intro i h
      obtain ⟨b, hb⟩ := ih (i + 1) (by omega)
      by_cases hs : ((rd_T53 l (i : Int)).f1.size : Int) > 2147483647
      · have hz : laws_zzFits2.f (rd_T53 l (i : Int)).f0 (rd_T53 l (i : Int)).f1 = some false := if_pos hs
        refine ⟨false, Evt.succ (fun k => by rw [laws_zzFits1.l0]) ?_⟩
        exact Evt.pos (by omega) (Evt.pos (by omega) (Evt.pos (by omega) (Evt.obind hz (Evt.neg Bool.false_ne_true (Evt.ret _)))))
      · have hz : laws_zzFits2.f (rd_T53 l (i : Int)).f0 (rd_T53 l (i : Int)).f1 = some true := if_neg hs
        refine ⟨b, Evt.succ (fun k => by rw [laws_zzFits1.l0]) ?_⟩
        refine Evt.pos (by omega) (Evt.pos (by omega) (Evt.pos (by omega) (Evt.obind hz (Evt.pos rfl ?_))))
        rw [wrap64_eq (by omega) (by omega)]
        exact hb
  unfold laws_zzFits1.f
  by_cases hc : (l.length : Int) > 2147483647
  · exact ⟨false, Evt.pos hc (Evt.ret _)⟩
  · obtain ⟨b, hb⟩ := loop l.length 0 (by omega)
    exact ⟨b, Evt.neg hc hb⟩
theorem isDiffs (l : List S53) : ∃ b, Evt (fun k => spec_IsDiffs.f k l) b ∧ (b = true → l.length ≤ 20 ∧ ∀ y ∈ l, OkDiff y) := by
  by_cases hc : (l.length : Int) > 20
  · exact ⟨false, by unfold spec_IsDiffs.f; exact Evt.pos hc (Evt.ret _), fun h => by cases h⟩
  have loop : ∀ (d i : Nat), i + d = l.length → ∃ b, Evt (fun k => spec_IsDiffs.l0 k l (l.length : Int) (i : Int)) b ∧ (b = true → ∀ y ∈ l.drop i, OkDiff y) := by
    intro d
    induction d with
    | zero =>
      intro i h
      exact ⟨true, Evt.succ (fun k => by rw [spec_IsDiffs.l0]) (Evt.neg (by omega) (Evt.ret _)), fun _ y hy => by rw [List.drop_eq_nil_of_le (by omega)] at hy; cases hy⟩
    | succ d ih =>
      intro i h
      obtain ⟨b, hb, hall⟩ := ih (i + 1) (by omega)
      have hi : i < l.length := by omega
      have st : ∀ r g, Evt g r → (∀ k, (if (l[i].f0) < (-1) then (some false) else (if (l[i].f0) > 1 then (some false) else (if (l[i].f1).toList = ([] : List UInt8) then (some false) else ((spec_IsDiffText.f (l[i].f1) 40).bind fun t154 => (if t154 = true then (spec_IsDiffs.l0 k l (l.length : Int) (wrap64 ((i : Int) + 1))) else (some false)))))) = g k) → Evt (fun k => spec_IsDiffs.l0 k l (l.length : Int) (i : Int)) r := fun r g hg he => by
        refine Evt.succ (fun k => by rw [spec_IsDiffs.l0]) ?_
        refine Evt.pos (by omega) (Evt.pos (by omega) (Evt.pos (by omega) ?_))
        rw [rdDf l i hi]
        exact Evt.congr he hg
      by_cases h1 : l[i].f0 < -1
      · exact ⟨false, st _ _ (Evt.ret _) (fun k => if_pos h1), fun h => by cases h⟩
      by_cases h2 : l[i].f0 > 1
      · exact ⟨false, st _ _ (Evt.ret _) (fun k => by rw [if_neg h1, if_pos h2]), fun h => by cases h⟩
      by_cases h3 : l[i].f1.toList = []
      · exact ⟨false, st _ _ (Evt.ret _) (fun k => by rw [if_neg h1, if_neg h2, if_pos h3]), fun h => by cases h⟩
      obtain ⟨q, hq, hok⟩ := isDiffText l[i].f1 40 (by omega)
      cases q with
      | false => exact ⟨false, st _ _ (Evt.ret _) (fun k => by rw [if_neg h1, if_neg h2, if_neg h3]; erw [hq]; rfl), fun h => by cases h⟩
      | true =>
        refine ⟨b, st _ _ hb (fun k => by rw [if_neg h1, if_neg h2, if_neg h3]; erw [hq]; rw [wrap64_eq (by omega) (by omega)]; rfl), fun h y hy => ?_⟩
        rw [List.drop_eq_getElem_cons hi] at hy
        rcases List.mem_cons.1 hy with rfl | hy
        · obtain ⟨k1, k2, k3⟩ := hok rfl
          exact ⟨by omega, by omega, h3, by omega, k2, k3⟩
        · exact hall h y hy
  obtain ⟨b, hb, hall⟩ := loop l.length 0 (by omega)
  exact ⟨b, by unfold spec_IsDiffs.f; exact Evt.neg hc hb, fun h => ⟨by omega, fun y hy => hall h y (by simpa using hy)⟩⟩
def toD (y : S53) : S33 := ⟨y.f0, y.f1⟩
def toDmp (y : S33) : S76 := ⟨IntKind.i8.wrap y.f0, y.f1⟩
theorem diffTo (l : List S53) (hl : l.length ≤ 2147483647) : Evt (fun k => laws_diffTo.f k l) (l.map toD) := by
  have loop : ∀ (d i : Nat) (acc : List S33), i + d = l.length → acc.length ≤ i → Evt (fun k => laws_diffTo.l0 k acc l (l.length : Int) (i : Int)) (acc ++ (l.drop i).map toD) := by
    intro d
    induction d with
    | zero =>
      intro i acc h _
      refine Evt.succ (fun k => by rw [laws_diffTo.l0]) (Evt.neg (by omega) ?_)
      rw [List.drop_eq_nil_of_le (by omega)]
      exact (Evt.ret _).cast (by simp)
    | succ d ih =>
      intro i acc h ha
      refine Evt.succ (fun k => by rw [laws_diffTo.l0]) (Evt.pos (by omega) (Evt.pos (by omega) (Evt.pos (by omega) (Evt.pos (by omega) ?_))))
      rw [rdDf l i (by omega), wrap64_eq (by omega) (by omega)]
      refine (ih (i + 1) _ (by omega) (by simp; omega)).cast ?_
      rw [List.drop_eq_getElem_cons (show i < l.length by omega), List.map_cons, List.append_assoc]
      rfl
  unfold laws_diffTo.f
  exact (loop l.length 0 [] (by omega) (by simp)).cast (by simp)
theorem implDiffs (l : List S33) (hl : l.length ≤ 2147483647) : Evt (fun k => impl_diffs.f k l) (l.map toDmp) := by
  have loop : ∀ (d i : Nat) (acc : List S76), i + d = l.length → acc.length ≤ i → Evt (fun k => impl_diffs.l0 k acc l (l.length : Int) (i : Int)) (acc ++ (l.drop i).map toDmp) := by
    intro d
    induction d with
    | zero =>
      intro i acc h _
      refine Evt.succ (fun k => by rw [impl_diffs.l0]) (Evt.neg (by omega) ?_)
      rw [List.drop_eq_nil_of_le (by omega)]
      exact (Evt.ret _).cast (by simp)
    | succ d ih =>
      intro i acc h ha
      refine Evt.succ (fun k => by rw [impl_diffs.l0]) (Evt.pos (by omega) (Evt.pos (by omega) (Evt.pos (by omega) (Evt.pos (by omega) ?_))))
      rw [rdD l i (by omega), wrap64_eq (by omega) (by omega)]
      refine (ih (i + 1) _ (by omega) (by simp; omega)).cast ?_
      rw [List.drop_eq_getElem_cons (show i < l.length by omega), List.map_cons, List.append_assoc]
      rfl
  unfold impl_diffs.f
  exact (loop l.length 0 [] (by omega) (by simp)).cast (by simp)
end Go.Proofs.YtmdgnglgabnhnaaDoor.P
