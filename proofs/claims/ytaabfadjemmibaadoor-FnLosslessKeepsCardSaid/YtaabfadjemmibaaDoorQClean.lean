import Derived.Test.YtaabfadjemmibaaDoorXEvt
import Derived.Test.YtaabfadjemmibaaDoorQBytes
import Derived.Test.YtaabfadjemmibaaDoorPx3
import Derived.Test.YtaabfadjemmibaaDoorPx7
import Derived.Test.YtaabfadjemmibaaDoorPx4
/- Lists of differences: the guards, and the ways from one kind of list to the other. -/
namespace Go.Proofs.YtaabfadjemmibaaDoor.P
open Go.RowKit Go.Lib Go.Proofs.YtaabfadjemmibaaDoorW.PrintWords Go.Proofs.YtaabfadjemmibaaDoorX
/-- A difference of the thin package, of the specification, of the package. -/
abbrev DI := S26
abbrev DS := S34
abbrev DD := S59
theorem rdI (l : List DI) (i : Nat) (h : i < l.length) : rd_T26 l (i : Int) = l[i] := by simp [rd_T26, List.getD_eq_getElem?_getD, List.getElem?_eq_getElem h]
theorem rdS (l : List DS) (i : Nat) (h : i < l.length) : rd_T34 l (i : Int) = l[i] := by simp [rd_T34, List.getD_eq_getElem?_getD, List.getElem?_eq_getElem h]
theorem rdG (l : List DD) (i : Nat) (h : i < l.length) : rd_T59 l (i : Int) = l[i] := by simp [rd_T59, List.getD_eq_getElem?_getD, List.getElem?_eq_getElem h]
theorem btB (s : ByteArray) (i : Nat) (h : i < s.size) : bt s (i : Int) = (((B s)[i]'(by rw [B_size]; exact h)).toNat : Int) := by
  simp [bt, B, h]
  rfl
def toS (y : DI) : DS := ⟨y.f0, y.f1⟩
def toG (y : DI) : DD := ⟨IntKind.i8.wrap y.f0, y.f1⟩
def toI (y : DD) : DI := ⟨wrap64 y.f0, y.f1⟩
theorem cleanOf (l : List DI) (hl : l.length ≤ 2147483647) : Evt (fun k => laws_cleanOf.f k l) (l.map toS) := by
  have loop : ∀ (d i : Nat) (acc : List DS), i + d = l.length → acc.length ≤ i → Evt (fun k => laws_cleanOf.l0 k acc l (l.length : Int) (i : Int)) (acc ++ (l.drop i).map toS) := by
    intro d
    induction d with
    | zero =>
      intro i acc h _
      refine Evt.succ (fun k => by rw [laws_cleanOf.l0]) ?_
      repeat (first | (refine Evt.pos (by omega) ?_) | (refine Evt.neg (by omega) ?_))
      rw [List.drop_eq_nil_of_le (by omega)]
      exact (Evt.ret _).cast (by simp)
    | succ d ih =>
      intro i acc h ha
      refine Evt.succ (fun k => by rw [laws_cleanOf.l0]) ?_
      repeat (first | (refine Evt.pos (by omega) ?_) | (refine Evt.neg (by omega) ?_))
      rw [rdI l i (by omega), wrap64_eq (by omega) (by omega)]
      refine (ih (i + 1) _ (by omega) (by simp; omega)).cast ?_
      rw [List.drop_eq_getElem_cons (show i < l.length by omega), List.map_cons, List.append_assoc]
      rfl
  unfold laws_cleanOf.f
  exact (loop l.length 0 [] (by omega) (by simp)).cast (by simp)
theorem cleanOwn (l : List DI) (hl : l.length ≤ 2147483647) : laws_cleanOwn.f l = some l := by
  unfold laws_cleanOwn.f
  rw [if_pos (by simp; omega)]
  simp
theorem implDiffs (l : List DI) (hl : l.length ≤ 2147483647) : Evt (fun k => impl_diffs.f k l) (l.map toG) := by
  have loop : ∀ (d i : Nat) (acc : List DD), i + d = l.length → acc.length ≤ i → Evt (fun k => impl_diffs.l0 k acc l (l.length : Int) (i : Int)) (acc ++ (l.drop i).map toG) := by
    intro d
    induction d with
    | zero =>
      intro i acc h _
      refine Evt.succ (fun k => by rw [impl_diffs.l0]) ?_
      repeat (first | (refine Evt.pos (by omega) ?_) | (refine Evt.neg (by omega) ?_))
      rw [List.drop_eq_nil_of_le (by omega)]
      exact (Evt.ret _).cast (by simp)
    | succ d ih =>
      intro i acc h ha
      refine Evt.succ (fun k => by rw [impl_diffs.l0]) ?_
      repeat (first | (refine Evt.pos (by omega) ?_) | (refine Evt.neg (by omega) ?_))
      rw [rdI l i (by omega), wrap64_eq (by omega) (by omega)]
      refine (ih (i + 1) _ (by omega) (by simp; omega)).cast ?_
      rw [List.drop_eq_getElem_cons (show i < l.length by omega), List.map_cons, List.append_assoc]
      rfl
  unfold impl_diffs.f
  exact (loop l.length 0 [] (by omega) (by simp)).cast (by simp)
theorem implBack (l : List DD) (hl : l.length ≤ 2147483647) : Evt (fun k => impl_back.f k l) (l.map toI) := by
  have loop : ∀ (d i : Nat) (acc : List DI), i + d = l.length → acc.length ≤ i → Evt (fun k => impl_back.l0 k acc l (l.length : Int) (i : Int)) (acc ++ (l.drop i).map toI) := by
    intro d
    induction d with
    | zero =>
      intro i acc h _
      refine Evt.succ (fun k => by rw [impl_back.l0]) ?_
      repeat (first | (refine Evt.pos (by omega) ?_) | (refine Evt.neg (by omega) ?_))
      rw [List.drop_eq_nil_of_le (by omega)]
      exact (Evt.ret _).cast (by simp)
    | succ d ih =>
      intro i acc h ha
      refine Evt.succ (fun k => by rw [impl_back.l0]) ?_
      repeat (first | (refine Evt.pos (by omega) ?_) | (refine Evt.neg (by omega) ?_))
      rw [rdG l i (by omega), wrap64_eq (n := (i : Int) + 1) (by omega) (by omega)]
      refine (ih (i + 1) _ (by omega) (by simp; omega)).cast ?_
      rw [List.drop_eq_getElem_cons (show i < l.length by omega), List.map_cons, List.append_assoc]
      rfl
  unfold impl_back.f
  exact (loop l.length 0 [] (by omega) (by simp)).cast (by simp)
theorem zzFits3 (l : List DI) (hl : l.length ≤ 9223372036854775807) : ∃ b, Evt (fun k => laws_zzFits3.f k l) b ∧ (b = true → l.length ≤ 2147483647) := by
  have loop : ∀ (d i : Nat), i + d = l.length → ∃ b, Evt (fun k => laws_zzFits3.l0 k l (l.length : Int) (i : Int)) b := by
    intro d
    induction d with
    | zero =>
      intro i h
      exact ⟨true, by refine Evt.succ (fun k => by rw [laws_zzFits3.l0]) ?_; repeat (first | (refine Evt.pos (by omega) ?_) | (refine Evt.neg (by omega) ?_)); exact Evt.ret _⟩
    | succ d ih =>
      intro i h
      obtain ⟨b, hb⟩ := ih (i + 1) (by omega)
      have e := rdI l i (by omega)
      by_cases hs : ((l[i]'(by omega)).f1.size : Int) > 2147483647
      · have hz : laws_zzFits4.f (l[i]'(by omega)).f0 (l[i]'(by omega)).f1 = some false := if_pos hs
        refine ⟨false, ?_⟩
        refine Evt.succ (fun k => by rw [laws_zzFits3.l0]) ?_
        repeat (first | (refine Evt.pos (by omega) ?_) | (refine Evt.neg (by omega) ?_))
        rw [e]
        exact Evt.obind hz (Evt.neg Bool.false_ne_true (Evt.ret _))
      · have hz : laws_zzFits4.f (l[i]'(by omega)).f0 (l[i]'(by omega)).f1 = some true := if_neg hs
        refine ⟨b, ?_⟩
        refine Evt.succ (fun k => by rw [laws_zzFits3.l0]) ?_
        repeat (first | (refine Evt.pos (by omega) ?_) | (refine Evt.neg (by omega) ?_))
        rw [e]
        refine Evt.obind hz (Evt.pos rfl ?_)
        rw [wrap64_eq (by omega) (by omega)]
        exact hb
  unfold laws_zzFits3.f
  by_cases hc : (l.length : Int) > 2147483647
  · exact ⟨false, Evt.pos hc (Evt.ret _), fun h => by cases h⟩
  · obtain ⟨b, hb⟩ := loop l.length 0 (by omega)
    exact ⟨b, Evt.neg hc hb, fun _ => by omega⟩
theorem cleanChars (s : ByteArray) (n : Nat) (hn : n ≤ 1000) : ∃ b, spec_CleanChars.f s (n : Int) = some b ∧ (b = true ↔ s.size ≤ n ∧ Vt s) := by
  unfold spec_CleanChars.f
  by_cases h : (s.size : Int) ≤ (n : Int)
  · have := runesI_length_le s
    rw [if_pos h, if_pos (by omega)]
    refine ⟨_, rfl, ?_⟩
    rw [beq_iff_eq, B_toList, B_toList]
    exact ⟨fun hb => ⟨by omega, (Vt_iff s).1 (B_inj hb)⟩, fun hb => by rw [(Vt_iff s).2 hb.2]⟩
  · rw [if_neg h]
    exact ⟨_, rfl, ⟨fun hb => (by cases hb), fun hb => by omega⟩⟩
/-- What 'spec.CleanRight' says of a difference. -/
structure OkD (asc : Bool) (y : DI) : Prop where
  lo : -1 ≤ y.f0
  hi : y.f0 ≤ 1
  some_ : y.f1.size ≠ 0
  size : y.f1.size ≤ 40
  valid : Vt y.f1
  ascii : asc = true → ∀ b ∈ B y.f1, b.toNat ≤ 126
theorem cleanRight_in (x2 : Int) (l : List DS) (i : Int) (a : Int) (s : ByteArray) (n : Nat) (r : Bool) (hs : s.size ≤ 1000) (hcont : Evt (fun k => spec_CleanRight.l0 k x2 true l (l.length : Int) (wrap64 (i + 1))) r) :
    ∀ (d j : Nat), j + d = s.size → ∃ b, Evt (fun k => spec_CleanRight.l1 k x2 true (j : Int) l (l.length : Int) i a s) (b && r) ∧ (b = true → ∀ c ∈ (B s).drop j, c.toNat ≤ 126) := by
  intro d
  induction d with
  | zero =>
    intro j h
    refine ⟨true, ?_, fun _ c hc => by rw [List.drop_eq_nil_of_le (by rw [B_size]; omega)] at hc; cases hc⟩
    refine Evt.succ (fun k => by rw [spec_CleanRight.l1]) ?_
    repeat (first | (refine Evt.pos (by omega) ?_) | (refine Evt.neg (by omega) ?_))
    refine Evt.succ (fun k => by rw [spec_CleanRight.j3]) ?_
    refine Evt.neg (by simp) ?_
    simpa using hcont
  | succ d ih =>
    intro j h
    obtain ⟨b, hb, hall⟩ := ih (j + 1) (by omega)
    have e := btB s j (by omega)
    have hj : j < (B s).length := by rw [B_size]; omega
    by_cases hc : (((B s)[j]'hj).toNat : Int) > 126
    · refine ⟨false, ?_, fun h => by cases h⟩
      refine Evt.succ (fun k => by rw [spec_CleanRight.l1]) ?_
      repeat (first | (refine Evt.pos (by omega) ?_) | (refine Evt.neg (by omega) ?_))
      refine Evt.succ (fun k => by rw [spec_CleanRight.j3]) ?_
      refine Evt.pos rfl ?_
      rw [e]
      repeat (first | (refine Evt.pos (by omega) ?_) | (refine Evt.neg (by omega) ?_))
      exact Evt.ret _
    · refine ⟨b, ?_, fun hb2 c hcm => ?_⟩
      · refine Evt.succ (fun k => by rw [spec_CleanRight.l1]) ?_
        repeat (first | (refine Evt.pos (by omega) ?_) | (refine Evt.neg (by omega) ?_))
        refine Evt.succ (fun k => by rw [spec_CleanRight.j3]) ?_
        refine Evt.pos rfl ?_
        rw [e]
        repeat (first | (refine Evt.pos (by omega) ?_) | (refine Evt.neg (by omega) ?_))
        rw [wrap64_eq (by omega) (by omega)]
        exact hb
      · rw [List.drop_eq_getElem_cons hj] at hcm
        rcases List.mem_cons.1 hcm with rfl | hcm
        · omega
        · exact hall hb2 c hcm
theorem cleanRight (l : List DI) (asc : Bool) (hl : l.length ≤ 12) : ∃ b, Evt (fun k => spec_CleanRight.f k (l.map toS) 12 40 asc) b ∧ (b = true → ∀ y ∈ l, OkD asc y) := by
  have hlen : (l.map toS).length = l.length := by simp
  have loop : ∀ (d i : Nat), i + d = l.length → ∃ b, Evt (fun k => spec_CleanRight.l0 k 40 asc (l.map toS) ((l.map toS).length : Int) (i : Int)) b ∧ (b = true → ∀ y ∈ l.drop i, OkD asc y) := by
    intro d
    induction d with
    | zero =>
      intro i h
      refine ⟨true, ?_, fun _ y hy => by rw [List.drop_eq_nil_of_le (by omega)] at hy; cases hy⟩
      refine Evt.succ (fun k => by rw [spec_CleanRight.l0]) ?_
      rw [hlen]
      repeat (first | (refine Evt.pos (by omega) ?_) | (refine Evt.neg (by omega) ?_))
      exact Evt.ret _
    | succ d ih =>
      intro i h
      obtain ⟨r, hr, hall⟩ := ih (i + 1) (by omega)
      have hi : i < l.length := by omega
      have e : rd_T34 (l.map toS) (i : Int) = toS l[i] := by rw [rdS _ i (by simpa using hi)]; simp
      have f0 : (toS l[i]).f0 = l[i].f0 := rfl
      have f1 : (toS l[i]).f1 = l[i].f1 := rfl
      have bad : Evt (fun k => spec_CleanRight.j1 k 40 asc (l.map toS) ((l.map toS).length : Int) (i : Int) true l[i].f0 l[i].f1) false := by
        refine Evt.succ (fun k => by rw [spec_CleanRight.j1]) ?_
        exact Evt.pos rfl (Evt.ret _)
      by_cases h1 : l[i].f0 < -1
      · refine ⟨false, ?_, fun h => by cases h⟩
        refine Evt.succ (fun k => by rw [spec_CleanRight.l0]) ?_
        rw [e, f0, f1]
        refine Evt.pos (by rw [hlen]; omega) (Evt.pos (by omega) (Evt.pos (by rw [hlen]; omega) (Evt.pos h1 bad)))
      by_cases h2 : l[i].f0 > 1
      · refine ⟨false, ?_, fun h => by cases h⟩
        refine Evt.succ (fun k => by rw [spec_CleanRight.l0]) ?_
        rw [e, f0, f1]
        refine Evt.pos (by rw [hlen]; omega) (Evt.pos (by omega) (Evt.pos (by rw [hlen]; omega) (Evt.neg h1 (Evt.pos h2 bad))))
      by_cases h3 : l[i].f1.toList = ([] : List UInt8)
      · refine ⟨false, ?_, fun h => by cases h⟩
        refine Evt.succ (fun k => by rw [spec_CleanRight.l0]) ?_
        rw [e, f0, f1]
        refine Evt.pos (by rw [hlen]; omega) (Evt.pos (by omega) (Evt.pos (by rw [hlen]; omega) (Evt.neg h1 (Evt.neg h2 (Evt.pos h3 bad)))))
      obtain ⟨q, hq, hiff⟩ := cleanChars l[i].f1 40 (by omega)
      have step : ∀ r', Evt (fun k => spec_CleanRight.j1 k 40 asc (l.map toS) ((l.map toS).length : Int) (i : Int) (!q) l[i].f0 l[i].f1) r' → Evt (fun k => spec_CleanRight.l0 k 40 asc (l.map toS) ((l.map toS).length : Int) (i : Int)) r' := by
        intro r' h'
        refine Evt.succ (fun k => by rw [spec_CleanRight.l0]) ?_
        rw [e, f0, f1]
        refine Evt.pos (by rw [hlen]; omega) (Evt.pos (by omega) (Evt.pos (by rw [hlen]; omega) (Evt.neg h1 (Evt.neg h2 (Evt.neg h3 ?_)))))
        exact Evt.obind hq h'
      cases q with
      | false => exact ⟨false, step _ (by refine Evt.succ (fun k => by rw [spec_CleanRight.j1]) ?_; exact Evt.pos rfl (Evt.ret _)), fun h => by cases h⟩
      | true =>
        obtain ⟨k1, k2⟩ := hiff.1 rfl
        have hcont : Evt (fun k => spec_CleanRight.l0 k 40 asc (l.map toS) ((l.map toS).length : Int) (wrap64 ((i : Int) + 1))) r := by rw [wrap64_eq (by omega) (by omega)]; exact hr
        have hne : l[i].f1.size ≠ 0 := fun h0 => h3 ((toList_nil_iff _).2 h0)
        cases asc with
        | false =>
          refine ⟨r, step _ ?_, fun hb y hy => ?_⟩
          · refine Evt.succ (fun k => by rw [spec_CleanRight.j1]) ?_
            refine Evt.neg (by simp) ?_
            refine Evt.succ (fun k => by rw [spec_CleanRight.l1]) ?_
            have hh : Evt (fun k => spec_CleanRight.j3 k 40 false 0 (l.map toS) ((l.map toS).length : Int) (i : Int) false l[i].f0 l[i].f1) r := by
              refine Evt.succ (fun k => by rw [spec_CleanRight.j3]) ?_
              exact Evt.neg (by simp) hcont
            exact Evt.ite (fun _ => hh) (fun _ => hh)
          · rw [List.drop_eq_getElem_cons hi] at hy
            rcases List.mem_cons.1 hy with rfl | hy
            · exact ⟨by omega, by omega, hne, k1, k2, fun h => by cases h⟩
            · exact hall hb y hy
        | true =>
          obtain ⟨b, hb, hbb⟩ := cleanRight_in 40 (l.map toS) (i : Int) l[i].f0 l[i].f1 0 r (by omega) hcont l[i].f1.size 0 (by omega)
          refine ⟨b && r, step _ ?_, fun hbr y hy => ?_⟩
          · refine Evt.succ (fun k => by rw [spec_CleanRight.j1]) ?_
            refine Evt.neg (by simp) ?_
            exact hb
          · have hb1 : b = true ∧ r = true := by simpa using hbr
            rw [List.drop_eq_getElem_cons hi] at hy
            rcases List.mem_cons.1 hy with rfl | hy
            · exact ⟨by omega, by omega, hne, k1, k2, fun _ => by simpa using hbb hb1.1⟩
            · exact hall hb1.2 y hy
  obtain ⟨b, hb, hall⟩ := loop l.length 0 (by omega)
  refine ⟨b, ?_, fun h y hy => hall h y (by simpa using hy)⟩
  unfold spec_CleanRight.f
  exact Evt.neg (by rw [hlen]; omega) hb
end Go.Proofs.YtaabfadjemmibaaDoor.P
