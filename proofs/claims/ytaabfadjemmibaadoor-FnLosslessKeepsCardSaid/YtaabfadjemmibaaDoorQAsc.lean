import Derived.Test.YtaabfadjemmibaaDoorQClean
import Derived.Test.YtaabfadjemmibaaDoorQPre
import Derived.Test.YtaabfadjemmibaaDoorPx5
import Derived.Test.YtaabfadjemmibaaDoorPx4
/- Texts of one-byte characters: decoding, common ends; the score of a border. -/
namespace Go.Proofs.YtaabfadjemmibaaDoor.P
open Go.RowKit Go.Lib Go.Proofs.YtaabfadjemmibaaDoorW.PrintWords Go.Proofs.YtaabfadjemmibaaDoorX
/-- Bytes of one-byte characters alone. -/
def Asc (l : List UInt8) : Prop := ∀ b ∈ l, b.toNat < 128
theorem Asc.append {a b : List UInt8} (ha : Asc a) (hb : Asc b) : Asc (a ++ b) := fun x hx => (List.mem_append.1 hx).elim (ha x) (hb x)
theorem Asc.left {a b : List UInt8} (h : Asc (a ++ b)) : Asc a := fun x hx => h x (List.mem_append.2 (.inl hx))
theorem Asc.right {a b : List UInt8} (h : Asc (a ++ b)) : Asc b := fun x hx => h x (List.mem_append.2 (.inr hx))
theorem runesB_asc : ∀ (l : List UInt8), Asc l → runesB l = l.map (fun b => (b.toNat : Int))
  | [], _ => rfl
  | b :: t, h => by
    rw [runesB_step _ (by simp), decodeL_ascii b t (h b (by simp))]
    simp only [List.drop_succ_cons, List.drop_zero, List.map_cons]
    rw [runesB_asc t (fun x hx => h x (by simp [hx]))]
theorem map_inj : ∀ (a b : List UInt8), a.map (fun b => (b.toNat : Int)) = b.map (fun b => (b.toNat : Int)) → a = b
  | [], [], _ => rfl
  | [], _ :: _, h => by cases h
  | _ :: _, [], h => by cases h
  | x :: a, y :: b, h => by
    simp only [List.map_cons, List.cons.injEq] at h
    rw [map_inj a b h.2, UInt8.toNat_inj.1 (Int.ofNat_inj.1 h.1)]
theorem decGo_asc (s : ByteArray) (b : UInt8) (t : List UInt8) (hs : B s = b :: t) (h : b.toNat < 128) : utf8_DecodeRuneInString.f s = some ((b.toNat : Int), 1) := by
  have hsz : s.size ≠ 0 := by rw [← B_size, hs]; simp
  have e : Lib.decodeGo s = (b.toNat, 1) := by
    unfold Lib.decodeGo
    rw [if_neg hsz, show Utf8.decode s 0 = decodeL (B s) from by unfold decodeL B; rw [ofL], hs, decodeL_ascii b t h]
  unfold utf8_DecodeRuneInString.f
  rw [e]
  rfl
theorem decLast_asc (s : ByteArray) (b : UInt8) (t : List UInt8) (hs : B s = t ++ [b]) (h : b.toNat < 128) (hm : s.size ≤ 9223372036854775807) : utf8_DecodeLastRuneInString.f s = some ((b.toNat : Int), 1) := by
  unfold utf8_DecodeLastRuneInString.f
  rw [if_pos hm, show s.data.toList = B s from rfl, hs, decodeLastL_ascii t b h]
  rfl
theorem decGo_ex (s : ByteArray) : ∃ r w, utf8_DecodeRuneInString.f s = some (r, w) := ⟨_, _, rfl⟩
theorem decLast_ex (s : ByteArray) (hm : s.size ≤ 9223372036854775807) : ∃ r w, utf8_DecodeLastRuneInString.f s = some (r, w) := ⟨_, _, if_pos hm⟩
/-- The common end of two texts of one-byte characters. -/
theorem suffix_asc (a b : ByteArray) (ha : Asc (B a)) (hb : Asc (B b)) (sa : a.size ≤ 1000000) (sb : b.size ≤ 1000000) :
    ∃ n : Nat, Evt (fun k => diffmatchpatch_DiffMatchPatch_DiffCommonSuffix.f k a b) (n : Int) ∧ n ≤ a.size ∧ n ≤ b.size ∧ (B a).drop (a.size - n) = (B b).drop (b.size - n) ∧ n = csl ((B a).map (fun b => (b.toNat : Int))) ((B b).map (fun b => (b.toNat : Int))) := by
  have ea : runesI a = (B a).map (fun b => (b.toNat : Int)) := by rw [runesI_eq]; exact runesB_asc _ ha
  have eb : runesI b = (B b).map (fun b => (b.toNat : Int)) := by rw [runesI_eq]; exact runesB_asc _ hb
  have la : (runesI a).length = a.size := by rw [ea, List.length_map, B_size]
  have lb : (runesI b).length = b.size := by rw [eb, List.length_map, B_size]
  have hle := csl_le (runesI a) (runesI b)
  refine ⟨csl (runesI a) (runesI b), ?_, by omega, by omega, ?_, by rw [ea, eb]⟩
  · unfold diffmatchpatch_DiffMatchPatch_DiffCommonSuffix.f
    refine Evt.pos (by omega) (Evt.pos (by omega) ?_)
    exact Evt.bind (cslf _ _ (by omega) (by omega)) (Evt.ret _)
  · have h := csl_drop (runesI a) (runesI b)
    rw [la, lb] at h
    have h2 : (runesI a).drop (a.size - csl (runesI a) (runesI b)) = ((B a).drop (a.size - csl (runesI a) (runesI b))).map (fun b => (b.toNat : Int)) := by rw [ea, List.map_drop]
    have h3 : (runesI b).drop (b.size - csl (runesI a) (runesI b)) = ((B b).drop (b.size - csl (runesI a) (runesI b))).map (fun b => (b.toNat : Int)) := by rw [eb, List.map_drop]
    exact map_inj _ _ (h2.symm.trans (h.trans h3))
/-! ### The score of a border -/
def nA (c : Int) : Bool := !(decide (97 ≤ c ∧ c ≤ 122 ∨ 65 ≤ c ∧ c ≤ 90 ∨ 48 ≤ c ∧ c ≤ 57))
theorem notAlnum (c : Int) : diffmatchpatch_zzNotAlnum.f c = some (nA c) := by
  unfold diffmatchpatch_zzNotAlnum.f nA
  by_cases hP : 97 ≤ c ∧ c ≤ 122 ∨ 65 ≤ c ∧ c ≤ 90 ∨ 48 ≤ c ∧ c ≤ 57
  · rw [decide_eq_true hP]
    repeat' split
    all_goals first | rfl | (rw [decide_eq_true (show c ≤ 57 by omega)]) | (exfalso; omega)
  · rw [decide_eq_false hP]
    repeat' split
    all_goals first | rfl | (rw [decide_eq_false (show ¬ c ≤ 57 by omega)]) | (exfalso; omega)
def wH (c : Int) : Bool := decide (c = 9 ∨ c = 10 ∨ c = 12 ∨ c = 13 ∨ c = 32)
theorem white (c : Int) : diffmatchpatch_zzWhite.f c = some (wH c) := by
  unfold diffmatchpatch_zzWhite.f wH
  by_cases hP : c = 9 ∨ c = 10 ∨ c = 12 ∨ c = 13 ∨ c = 32
  · rw [decide_eq_true hP]
    repeat' split
    all_goals first | rfl | (rw [beq_iff_eq.2 (show c = 32 by omega)])
  · rw [decide_eq_false hP]
    repeat' split
    all_goals first | (exfalso; omega) | (rw [beq_eq_false_iff_ne.2 (show c ≠ 32 by omega)])
def bR (c : Int) : Bool := decide (c = 13 ∨ c = 10)
theorem brk (c : Int) : diffmatchpatch_zzBreak.f c = some (bR c) := by
  unfold diffmatchpatch_zzBreak.f bR
  by_cases hP : c = 13 ∨ c = 10
  · rw [decide_eq_true hP]
    repeat' split
    all_goals first | rfl | (rw [beq_iff_eq.2 (show c = 10 by omega)])
  · rw [decide_eq_false hP]
    repeat' split
    all_goals first | (exfalso; omega) | (rw [beq_eq_false_iff_ne.2 (show c ≠ 10 by omega)])
theorem blank (s : ByteArray) (hs : s.size ≤ 1000000000) : ∃ b, diffmatchpatch_zzBlankEnd.f s = some b := by
  unfold diffmatchpatch_zzBlankEnd.f
  by_cases h : (s.size : Int) < 2
  · exact ⟨_, if_pos h⟩
  rw [if_neg h, wrap64_eq (n := (s.size : Int) - 1) (by omega) (by omega), wrap64_eq (n := (s.size : Int) - 2) (by omega) (by omega)]
  rw [if_pos (by omega), if_pos (by omega)]
  split
  · rw [if_pos (by omega), if_pos (by omega)]
    split
    · exact ⟨_, rfl⟩
    · split
      · split
        · rw [wrap64_eq (n := (s.size : Int) - 3) (by omega) (by omega), if_pos (by omega), if_pos (by omega)]; exact ⟨_, rfl⟩
        · exact ⟨_, rfl⟩
      · exact ⟨_, rfl⟩
  · exact ⟨_, rfl⟩
def s10 (x9 x10 x88 : Bool) : Int := if x88 = true then 2 else if x9 = true then 1 else if x10 = true then 1 else 0
theorem s10_f (x9 x10 x88 : Bool) : Evt (fun k => diffmatchpatch_diffCleanupSemanticScore.j10 k x9 x10 x88) (s10 x9 x10 x88) := by
  refine Evt.succ (fun k => by rw [diffmatchpatch_diffCleanupSemanticScore.j10]) ?_
  unfold s10
  cases x88 <;> cases x9 <;> cases x10 <;> exact Evt.ret _
def s9 (x9 x10 x11 x12 x84 : Bool) : Int := if x84 = true then 3 else if x11 = true then s10 x9 x10 true else s10 x9 x10 x12
theorem s9_f (x9 x10 x11 x12 x84 : Bool) : Evt (fun k => diffmatchpatch_diffCleanupSemanticScore.j9 k x9 x10 x11 x12 x84) (s9 x9 x10 x11 x12 x84) := by
  refine Evt.succ (fun k => by rw [diffmatchpatch_diffCleanupSemanticScore.j9]) ?_
  unfold s9
  cases x84 <;> cases x11
  · exact s10_f _ _ _
  · exact s10_f _ _ _
  · exact Evt.ret _
  · exact Evt.ret _
def s8 (x9 x10 x11 x12 x76 : Bool) : Int := if x76 = true then 4 else if x9 = true then (if x11 = true then s9 x9 x10 x11 x12 false else s9 x9 x10 x11 x12 x12) else s9 x9 x10 x11 x12 false
theorem s8_f (x9 x10 x11 x12 x76 : Bool) : Evt (fun k => diffmatchpatch_diffCleanupSemanticScore.j8 k x9 x10 x11 x12 x76) (s8 x9 x10 x11 x12 x76) := by
  refine Evt.succ (fun k => by rw [diffmatchpatch_diffCleanupSemanticScore.j8]) ?_
  unfold s8
  cases x76 <;> cases x9 <;> cases x11
  all_goals first | exact s9_f _ _ _ _ _ | exact Evt.ret _
def s7 (x9 x10 x11 x12 x13 x14 x72 : Bool) : Int := if x72 = true then 5 else if x13 = true then s8 x9 x10 x11 x12 true else s8 x9 x10 x11 x12 x14
theorem s7_f (x9 x10 x11 x12 x13 x14 x72 : Bool) : Evt (fun k => diffmatchpatch_diffCleanupSemanticScore.j7 k x9 x10 x11 x12 x13 x14 x72) (s7 x9 x10 x11 x12 x13 x14 x72) := by
  refine Evt.succ (fun k => by rw [diffmatchpatch_diffCleanupSemanticScore.j7]) ?_
  unfold s7
  cases x72 <;> cases x13
  all_goals first | exact s8_f _ _ _ _ _ | exact Evt.ret _
def s6 (x9 x10 x11 x12 x13 x14 x15 x16 : Bool) : Int := if x15 = true then s7 x9 x10 x11 x12 x13 x14 true else s7 x9 x10 x11 x12 x13 x14 x16
theorem s6_f (x9 x10 x11 x12 x13 x14 x15 x16 : Bool) : Evt (fun k => diffmatchpatch_diffCleanupSemanticScore.j6 k x9 x10 x11 x12 x13 x14 x15 x16) (s6 x9 x10 x11 x12 x13 x14 x15 x16) := by
  refine Evt.succ (fun k => by rw [diffmatchpatch_diffCleanupSemanticScore.j6]) ?_
  unfold s6
  cases x15
  all_goals exact s7_f _ _ _ _ _ _ _
/-- A border has a score; between a letter and a blank it is 2. -/
theorem score_ex (a b : ByteArray) (ha : a.size ≤ 1000000) (hb : b.size ≤ 1000000) : ∃ r, Evt (fun k => diffmatchpatch_diffCleanupSemanticScore.f k a b) r ∧ 0 ≤ r ∧ r ≤ 6 ∧
    (∀ c1 c2 : UInt8, ∀ t1 t2, B a = t1 ++ [c1] → B b = c2 :: t2 → ((97 ≤ c1.toNat ∧ c1.toNat ≤ 122 ∧ c2.toNat = 32) ∨ (97 ≤ c2.toNat ∧ c2.toNat ≤ 122 ∧ c1.toNat = 32)) → r = 2) := by
  have bd : ∀ a b c d e f g h, 0 ≤ s6 a b c d e f g h ∧ s6 a b c d e f g h ≤ 6 := by decide
  have full : Evt (fun k => diffmatchpatch_diffCleanupSemanticScore.j0 k a b true) 6 := by
    refine Evt.succ (fun k => by rw [diffmatchpatch_diffCleanupSemanticScore.j0]) ?_
    exact Evt.pos rfl (Evt.ret _)
  by_cases h0 : (a.size : Int) = 0
  · refine ⟨6, by unfold diffmatchpatch_diffCleanupSemanticScore.f; exact Evt.pos h0 full, by omega, by omega, fun c1 c2 t1 t2 e _ _ => ?_⟩
    have := congrArg List.length e
    rw [B_size, List.length_append, List.length_singleton] at this
    omega
  by_cases h1 : (b.size : Int) = 0
  · refine ⟨6, by unfold diffmatchpatch_diffCleanupSemanticScore.f; exact Evt.neg h0 (by rw [beq_iff_eq.2 h1]; exact full), by omega, by omega, fun c1 c2 t1 t2 _ e _ => ?_⟩
    have := congrArg List.length e
    rw [B_size, List.length_cons] at this
    omega
  obtain ⟨r1, w1, e1⟩ := decLast_ex a (by omega)
  obtain ⟨r2, w2, e2⟩ := decGo_ex b
  obtain ⟨b1, e3⟩ := blank a (by omega)
  obtain ⟨b2, e4⟩ := blank b (by omega)
  have key : Evt (fun k => diffmatchpatch_diffCleanupSemanticScore.f k a b) (s6 (nA r1) (nA r2) (nA r1 && wH r1) (nA r2 && wH r2) ((nA r1 && wH r1) && bR r1) ((nA r2 && wH r2) && bR r2) (((nA r1 && wH r1) && bR r1) && b1) (((nA r2 && wH r2) && bR r2) && b2)) := by
    unfold diffmatchpatch_diffCleanupSemanticScore.f
    refine Evt.neg h0 ?_
    rw [show ((b.size : Int) == 0) = false from by simpa using h1]
    refine Evt.succ (fun k => by rw [diffmatchpatch_diffCleanupSemanticScore.j0]) ?_
    refine Evt.neg (by simp) ?_
    refine Evt.obind e1 (Evt.obind e2 (Evt.obind (notAlnum _) (Evt.obind (notAlnum _) ?_)))
    show Evt (fun k => if nA r1 = true then (diffmatchpatch_zzWhite.f r1).bind fun t => diffmatchpatch_diffCleanupSemanticScore.j1 k a b r1 r2 (nA r1) (nA r2) t else diffmatchpatch_diffCleanupSemanticScore.j1 k a b r1 r2 (nA r1) (nA r2) false) _
    have J5 : ∀ x9 x10 x11 x12 x13 x14 x15, Evt (fun k => diffmatchpatch_diffCleanupSemanticScore.j5 k b x9 x10 x11 x12 x13 x14 x15) (s6 x9 x10 x11 x12 x13 x14 x15 (x14 && b2)) := by
      intro x9 x10 x11 x12 x13 x14 x15
      refine Evt.succ (fun k => by rw [diffmatchpatch_diffCleanupSemanticScore.j5]) ?_
      cases x14
      · exact s6_f _ _ _ _ _ _ _ _
      · exact Evt.pos rfl (Evt.obind e4 (s6_f _ _ _ _ _ _ _ _))
    have J4 : ∀ x9 x10 x11 x12 x13 x14, Evt (fun k => diffmatchpatch_diffCleanupSemanticScore.j4 k a b x9 x10 x11 x12 x13 x14) (s6 x9 x10 x11 x12 x13 x14 (x13 && b1) (x14 && b2)) := by
      intro x9 x10 x11 x12 x13 x14
      refine Evt.succ (fun k => by rw [diffmatchpatch_diffCleanupSemanticScore.j4]) ?_
      cases x13
      · exact J5 _ _ _ _ _ _ _
      · exact Evt.pos rfl (Evt.obind e3 (J5 _ _ _ _ _ _ _))
    have J3 : ∀ x9 x10 x11 x12 x13, Evt (fun k => diffmatchpatch_diffCleanupSemanticScore.j3 k a b r2 x9 x10 x11 x12 x13) (s6 x9 x10 x11 x12 x13 (x12 && bR r2) (x13 && b1) ((x12 && bR r2) && b2)) := by
      intro x9 x10 x11 x12 x13
      refine Evt.succ (fun k => by rw [diffmatchpatch_diffCleanupSemanticScore.j3]) ?_
      cases x12
      · exact J4 _ _ _ _ _ _
      · exact Evt.pos rfl (Evt.obind (brk _) (J4 _ _ _ _ _ _))
    have J2 : ∀ x9 x10 x11 x12, Evt (fun k => diffmatchpatch_diffCleanupSemanticScore.j2 k a b r1 r2 x9 x10 x11 x12) (s6 x9 x10 x11 x12 (x11 && bR r1) (x12 && bR r2) ((x11 && bR r1) && b1) ((x12 && bR r2) && b2)) := by
      intro x9 x10 x11 x12
      refine Evt.succ (fun k => by rw [diffmatchpatch_diffCleanupSemanticScore.j2]) ?_
      cases x11
      · exact J3 _ _ _ _ _
      · exact Evt.pos rfl (Evt.obind (brk _) (J3 _ _ _ _ _))
    have J1 : ∀ x9 x10 x11, Evt (fun k => diffmatchpatch_diffCleanupSemanticScore.j1 k a b r1 r2 x9 x10 x11) (s6 x9 x10 x11 (x10 && wH r2) (x11 && bR r1) ((x10 && wH r2) && bR r2) ((x11 && bR r1) && b1) (((x10 && wH r2) && bR r2) && b2)) := by
      intro x9 x10 x11
      refine Evt.succ (fun k => by rw [diffmatchpatch_diffCleanupSemanticScore.j1]) ?_
      cases x10
      · exact J2 _ _ _ _
      · exact Evt.pos rfl (Evt.obind (white _) (J2 _ _ _ _))
    cases hn : nA r1
    · exact J1 _ _ _
    · exact Evt.pos rfl (Evt.obind (white _) (J1 _ _ _))
  refine ⟨_, key, (bd _ _ _ _ _ _ _ _).1, (bd _ _ _ _ _ _ _ _).2, fun c1 c2 t1 t2 ea eb hc => ?_⟩
  have hl := decLast_asc a c1 t1 ea (by omega) (by omega)
  have hg := decGo_asc b c2 t2 eb (by omega)
  rw [e1] at hl
  rw [e2] at hg
  cases hl
  cases hg
  rcases hc with ⟨g1, g2, g3⟩ | ⟨g1, g2, g3⟩
  · have n1 : nA (c1.toNat : Int) = false := by unfold nA; simp; omega
    have n2 : nA (c2.toNat : Int) = true := by unfold nA; simp; omega
    have n3 : wH (c2.toNat : Int) = true := by unfold wH; simp; omega
    have n4 : bR (c2.toNat : Int) = false := by unfold bR; simp; omega
    rw [n1, n2, n3, n4]
    rfl
  · have n1 : nA (c2.toNat : Int) = false := by unfold nA; simp; omega
    have n2 : nA (c1.toNat : Int) = true := by unfold nA; simp; omega
    have n3 : wH (c1.toNat : Int) = true := by unfold wH; simp; omega
    have n4 : bR (c1.toNat : Int) = false := by unfold bR; simp; omega
    rw [n1, n2, n3, n4]
    rfl
end Go.Proofs.YtaabfadjemmibaaDoor.P
