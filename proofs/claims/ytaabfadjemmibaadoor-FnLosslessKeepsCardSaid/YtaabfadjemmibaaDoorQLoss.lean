import Derived.Test.YtaabfadjemmibaaDoorQAsc
import Derived.Test.YtaabfadjemmibaaDoorPx6
/- Edits shifted sideways: what the package's loop does to a list of differences of one-byte characters. -/
namespace Go.Proofs.YtaabfadjemmibaaDoor.P
open Go.RowKit Go.Lib Go.Proofs.YtaabfadjemmibaaDoorW.PrintWords Go.Proofs.YtaabfadjemmibaaDoorX
/-- A bound on the bytes of a list of differences. -/
def tot (l : List DD) : Nat := (l.map (fun d => d.f1.size)).sum
theorem tot_nil : tot [] = 0 := rfl
theorem tot_cons (d : DD) (l : List DD) : tot (d :: l) = d.f1.size + tot l := by simp [tot]
theorem tot_append (a b : List DD) : tot (a ++ b) = tot a + tot b := by simp [tot]
/-- All texts are of one-byte characters. -/
def AscD (l : List DD) : Prop := ∀ d ∈ l, Asc (B d.f1)
theorem AscD.append {a b : List DD} (ha : AscD a) (hb : AscD b) : AscD (a ++ b) := fun x hx => (List.mem_append.1 hx).elim (ha x) (hb x)
/-- The bytes of all differences but those of a type. -/
def sideD (but : Int) (l : List DD) : List UInt8 := l.flatMap fun d => if d.f0 = but then [] else B d.f1
theorem sideD_append (but : Int) (a b : List DD) : sideD but (a ++ b) = sideD but a ++ sideD but b := by simp [sideD]
theorem sideD_cons (but : Int) (d : DD) (l : List DD) : sideD but (d :: l) = (if d.f0 = but then [] else B d.f1) ++ sideD but l := by simp [sideD]
theorem sideD_nil (but : Int) : sideD but [] = [] := rfl
/-- The edits' types and lengths. -/
def edD (l : List DD) : List (Int × Nat) := l.flatMap fun d => if d.f0 = 0 then [] else [(d.f0, d.f1.size)]
theorem edD_append (a b : List DD) : edD (a ++ b) = edD a ++ edD b := by simp [edD]
theorem edD_cons (d : DD) (l : List DD) : edD (d :: l) = (if d.f0 = 0 then [] else [(d.f0, d.f1.size)]) ++ edD l := by simp [edD]
theorem edD_nil : edD [] = [] := rfl
/-- A list that was shifted. -/
structure Shift (l r : List DD) : Prop where
  side : ∀ but, but ≠ 0 → sideD but l = sideD but r
  ed : edD l = edD r
  len : r.length ≤ l.length
  asc : AscD r
  tot : tot r = tot l
  types : (∀ d ∈ l, -1 ≤ d.f0 ∧ d.f0 ≤ 1) → ∀ d ∈ r, -1 ≤ d.f0 ∧ d.f0 ≤ 1
theorem Shift.refl {l : List DD} (h : AscD l) : Shift l l := ⟨fun _ _ => rfl, rfl, Nat.le_refl _, h, rfl, id⟩
theorem Shift.trans {a b c : List DD} (h : Shift a b) (g : Shift b c) : Shift a c :=
  ⟨fun but hb => (h.side but hb).trans (g.side but hb), h.ed.trans g.ed, Nat.le_trans g.len h.len, g.asc, g.tot.trans h.tot, fun ht => g.types (h.types ht)⟩
/-- Three texts, the middle one moved. -/
structure Moved (a e c b1 b2 b3 : ByteArray) : Prop where
  all : B b1 ++ B b2 ++ B b3 = B a ++ B e ++ B c
  out : B b1 ++ B b3 = B a ++ B c
  len : b2.size = e.size
theorem Moved.refl (a e c : ByteArray) : Moved a e c a e c := ⟨rfl, rfl, rfl⟩
theorem Moved.trans {a e c a' e' c' b1 b2 b3 : ByteArray} (h : Moved a e c a' e' c') (g : Moved a' e' c' b1 b2 b3) : Moved a e c b1 b2 b3 :=
  ⟨g.all.trans h.all, g.out.trans h.out, g.len.trans h.len⟩
theorem Moved.sizes {a e c b1 b2 b3 : ByteArray} (h : Moved a e c b1 b2 b3) : b1.size + b2.size + b3.size = a.size + e.size + c.size := by
  have := congrArg List.length h.all
  simp only [List.length_append, B_size] at this
  omega
theorem Moved.asc {a e c b1 b2 b3 : ByteArray} (h : Moved a e c b1 b2 b3) (ha : Asc (B a)) (he : Asc (B e)) (hc : Asc (B c)) : Asc (B b1) ∧ Asc (B b2) ∧ Asc (B b3) := by
  have : Asc (B b1 ++ B b2 ++ B b3) := by rw [h.all]; exact (ha.append he).append hc
  exact ⟨this.left.left, this.left.right, this.right⟩
/-- The inner loop: it comes to the end of a round with three texts that are the old ones, the middle one moved; if at once no step is possible, or one. -/
theorem inner (x1 : List DD) (x5 : Int) : ∀ (n : Nat) (a e c b1 b2 b3 : ByteArray) (s : Int), c.size ≤ n → a.size + e.size + c.size ≤ 100000 → Asc (B a) → Asc (B e) → Asc (B c) → Moved a e c b1 b2 b3 → 0 ≤ s → s ≤ 12 →
    ∃ d1 d2 d3, Moved a e c d1 d2 d3 ∧ ∀ r, (Evt (fun k => diffmatchpatch_DiffMatchPatch_DiffCleanupSemanticLossless.j6 k x1 x5 d1 d2 d3) r → Evt (fun k => diffmatchpatch_DiffMatchPatch_DiffCleanupSemanticLossless.l1 k x1 x5 a e c b1 b2 b3 s) r) := by
  intro n
  induction n with
  | zero =>
    intro a e c b1 b2 b3 s hn _ _ _ _ hm _ _
    refine ⟨b1, b2, b3, hm, fun r h => ?_⟩
    have end_ : Evt (fun k => diffmatchpatch_DiffMatchPatch_DiffCleanupSemanticLossless.j4 k x1 x5 a e c b1 b2 b3 s false) r := by
      refine Evt.succ (fun k => by rw [diffmatchpatch_DiffMatchPatch_DiffCleanupSemanticLossless.j4]) ?_
      exact Evt.neg (by simp) h
    refine Evt.succ (fun k => by rw [diffmatchpatch_DiffMatchPatch_DiffCleanupSemanticLossless.l1]) ?_
    refine Evt.ite (fun _ => end_) (fun _ => ?_)
    rw [show ((c.size : Int) != 0) = false from bne_eq_false_iff_eq.2 (by omega)]
    exact end_
  | succ n ih =>
    intro a e c b1 b2 b3 s hn ht ha he hc hm hs0 hs1
    have end_ : ∀ {r}, Evt (fun k => diffmatchpatch_DiffMatchPatch_DiffCleanupSemanticLossless.j6 k x1 x5 b1 b2 b3) r → Evt (fun k => diffmatchpatch_DiffMatchPatch_DiffCleanupSemanticLossless.j4 k x1 x5 a e c b1 b2 b3 s false) r := by
      intro r h
      refine Evt.succ (fun k => by rw [diffmatchpatch_DiffMatchPatch_DiffCleanupSemanticLossless.j4]) ?_
      exact Evt.neg (by simp) h
    by_cases h0 : (e.size : Int) = 0
    · refine ⟨b1, b2, b3, hm, fun r h => ?_⟩
      refine Evt.succ (fun k => by rw [diffmatchpatch_DiffMatchPatch_DiffCleanupSemanticLossless.l1]) ?_
      exact Evt.pos h0 (end_ h)
    by_cases h1 : (c.size : Int) = 0
    · refine ⟨b1, b2, b3, hm, fun r h => ?_⟩
      refine Evt.succ (fun k => by rw [diffmatchpatch_DiffMatchPatch_DiffCleanupSemanticLossless.l1]) ?_
      refine Evt.neg h0 ?_
      rw [show ((c.size : Int) != 0) = false from bne_eq_false_iff_eq.2 (by omega)]
      exact end_ h
    obtain ⟨x, e', he'⟩ : ∃ x e', B e = x :: e' := List.exists_cons_of_ne_nil (fun h => by have := B_size e; rw [h] at this; simp at this; omega)
    obtain ⟨y, c', hc'⟩ : ∃ y c', B c = y :: c' := List.exists_cons_of_ne_nil (fun h => by have := B_size c; rw [h] at this; simp at this; omega)
    have hx : x.toNat < 128 := he x (by rw [he']; simp)
    have hd := decGo_asc e x e' he' hx
    have ese : e.size = e'.length + 1 := by rw [← B_size, he', List.length_cons]
    have csc : c.size = c'.length + 1 := by rw [← B_size, hc', List.length_cons]
    have p1 : B (e.extract 0 (1 : Int).toNat) = [x] := by rw [B_to, he']; rfl
    have p2 : B (c.extract 0 (1 : Int).toNat) = [y] := by rw [B_to, hc']; rfl
    have p3 : B (e.extract (1 : Int).toNat e.size) = e' := by rw [B_from, he']; rfl
    have p4 : B (c.extract (1 : Int).toNat c.size) = c' := by rw [B_from, hc']; rfl
    have head : ∀ r', Evt (fun k => diffmatchpatch_DiffMatchPatch_DiffCleanupSemanticLossless.j5 k x1 x5 a e c b1 b2 b3 s 1 ((e.extract 0 (1 : Int).toNat).toList != (c.extract 0 (1 : Int).toNat).toList)) r' → Evt (fun k => diffmatchpatch_DiffMatchPatch_DiffCleanupSemanticLossless.l1 k x1 x5 a e c b1 b2 b3 s) r' := by
      intro r' h
      refine Evt.succ (fun k => by rw [diffmatchpatch_DiffMatchPatch_DiffCleanupSemanticLossless.l1]) ?_
      refine Evt.neg h0 ?_
      rw [show ((c.size : Int) != 0) = true from bne_iff_ne.2 (by omega)]
      refine Evt.succ (fun k => by rw [diffmatchpatch_DiffMatchPatch_DiffCleanupSemanticLossless.j4]) ?_
      refine Evt.pos rfl (Evt.obind hd ?_)
      simp only
      refine Evt.neg (by omega) (Evt.pos (by omega) (Evt.pos (by omega) (Evt.pos (by omega) h)))
    by_cases hxy : x = y
    · subst hxy
      obtain ⟨A, hA⟩ : ∃ A, A = a ++ e.extract 0 (1 : Int).toNat := ⟨_, rfl⟩
      obtain ⟨E, hE⟩ : ∃ E, E = e.extract (1 : Int).toNat e.size ++ c.extract 0 (1 : Int).toNat := ⟨_, rfl⟩
      obtain ⟨C, hC⟩ : ∃ C, C = c.extract (1 : Int).toNat c.size := ⟨_, rfl⟩
      have bA : B A = B a ++ [x] := by rw [hA, B_append, p1]
      have bE : B E = e' ++ [x] := by rw [hE, B_append, p3, p2]
      have bC : B C = c' := by rw [hC, p4]
      have sA : A.size = a.size + 1 := by rw [← B_size, bA, List.length_append, B_size]; rfl
      have sE : E.size = e.size := by rw [← B_size, bE, List.length_append, ese]; rfl
      have sC : C.size = c'.length := by rw [← B_size, bC]
      have aA : Asc (B A) := by rw [bA]; exact ha.append (fun z hz => by rw [List.mem_singleton.1 hz]; exact hx)
      have aE : Asc (B E) := by
        rw [bE]
        exact Asc.append (fun z hz => he z (by rw [he']; simp [hz])) (fun z hz => by rw [List.mem_singleton.1 hz]; exact hx)
      have aC : Asc (B C) := by rw [bC]; exact fun z hz => hc z (by rw [hc']; simp [hz])
      have hmv : Moved a e c A E C := ⟨by rw [bA, bE, bC, he', hc']; simp, by rw [bA, bC, hc']; simp, sE⟩
      obtain ⟨r1, hr1, l1, u1, _⟩ := score_ex A E (by omega) (by omega)
      obtain ⟨r2, hr2, l2, u2, _⟩ := score_ex E C (by omega) (by omega)
      have s1 : (e.extract 0 (1 : Int).toNat).size = 1 := by rw [← B_size, p1]; rfl
      have s2 : (c.extract 0 (1 : Int).toNat).size = 1 := by rw [← B_size, p2]; rfl
      have s3 : (e.extract (1 : Int).toNat e.size).size = e'.length := by rw [← B_size, p3]
      have body : ∀ r', Evt (fun k => if wrap64 (r1 + r2) ≥ s then diffmatchpatch_DiffMatchPatch_DiffCleanupSemanticLossless.l1 k x1 x5 A E C A E C (wrap64 (r1 + r2)) else diffmatchpatch_DiffMatchPatch_DiffCleanupSemanticLossless.l1 k x1 x5 A E C b1 b2 b3 s) r' → Evt (fun k => diffmatchpatch_DiffMatchPatch_DiffCleanupSemanticLossless.l1 k x1 x5 a e c b1 b2 b3 s) r' := by
        intro r' h
        refine head r' ?_
        rw [show ((e.extract 0 (1 : Int).toNat).toList != (c.extract 0 (1 : Int).toNat).toList) = false from by rw [B_toList, B_toList, p1, p2]; simp]
        refine Evt.succ (fun k => by rw [diffmatchpatch_DiffMatchPatch_DiffCleanupSemanticLossless.j5]) ?_
        refine Evt.neg (by simp) (Evt.pos (by omega) (Evt.pos (by omega) (Evt.pos (by omega) (Evt.pos (by omega) (Evt.pos (by omega) ?_)))))
        rw [← hA, ← hE, ← hC]
        exact Evt.bind hr1 (Evt.bind hr2 h)
      have ew : wrap64 (r1 + r2) = r1 + r2 := wrap64_eq (by omega) (by omega)
      rw [ew] at body
      by_cases hge : r1 + r2 ≥ s
      · obtain ⟨d1, d2, d3, g1, g2⟩ := ih A E C A E C (r1 + r2) (by omega) (by omega) aA aE aC (Moved.refl _ _ _) (by omega) (by omega)
        exact ⟨d1, d2, d3, hmv.trans g1, fun r h => body r (Evt.pos hge (g2 r h))⟩
      · have hm' : Moved A E C b1 b2 b3 := ⟨hm.all.trans hmv.all.symm, hm.out.trans hmv.out.symm, hm.len.trans hmv.len.symm⟩
        obtain ⟨d1, d2, d3, g1, g2⟩ := ih A E C b1 b2 b3 s (by omega) (by omega) aA aE aC hm' hs0 hs1
        exact ⟨d1, d2, d3, hmv.trans g1, fun r h => body r (Evt.neg hge (g2 r h))⟩
    · refine ⟨b1, b2, b3, hm, fun r h => head r ?_⟩
      rw [show ((e.extract 0 (1 : Int).toNat).toList != (c.extract 0 (1 : Int).toNat).toList) = true from by rw [B_toList, B_toList, p1, p2]; simpa using hxy]
      refine Evt.succ (fun k => by rw [diffmatchpatch_DiffMatchPatch_DiffCleanupSemanticLossless.j5]) ?_
      exact Evt.pos rfl h
/-- A round at three neighbours: three texts, the middle one moved. -/
theorem round (x1 : List DD) (p : Nat) (h1 : 1 ≤ p) (h2 : p + 1 < x1.length) (hl : x1.length ≤ 100000) (ht : tot x1 ≤ 100000) (hasc : AscD x1) :
    ∃ d1 d2 d3, Moved (x1[p - 1]'(by omega)).f1 (x1[p]'(by omega)).f1 (x1[p + 1]'(by omega)).f1 d1 d2 d3 ∧
      ∀ r, (Evt (fun k => diffmatchpatch_DiffMatchPatch_DiffCleanupSemanticLossless.j6 k x1 (p : Int) d1 d2 d3) r → Evt (fun k => diffmatchpatch_DiffMatchPatch_DiffCleanupSemanticLossless.j1 k x1 (p : Int) true) r) := by
  obtain ⟨a, ea⟩ : ∃ a, a = (x1[p - 1]'(by omega)).f1 := ⟨_, rfl⟩
  obtain ⟨e, ee⟩ : ∃ e, e = (x1[p]'(by omega)).f1 := ⟨_, rfl⟩
  obtain ⟨c, ec⟩ : ∃ c, c = (x1[p + 1]'(by omega)).f1 := ⟨_, rfl⟩
  have w1 : wrap64 ((p : Int) - 1) = ((p - 1 : Nat) : Int) := wsub1 p h1 (by omega)
  have w2 : wrap64 ((p : Int) + 1) = ((p + 1 : Nat) : Int) := wadd1 p (by omega)
  have rd1 : (rd_T59 x1 (wrap64 ((p : Int) - 1))).f1 = a := by rw [w1, rdG x1 _ (by omega), ea]
  have rd2 : (rd_T59 x1 (p : Int)).f1 = e := by rw [rdG x1 _ (by omega), ee]
  have rd3 : (rd_T59 x1 (wrap64 ((p : Int) + 1))).f1 = c := by rw [w2, rdG x1 _ (by omega), ec]
  have ha : Asc (B a) := by rw [ea]; exact hasc _ (List.getElem_mem _)
  have he : Asc (B e) := by rw [ee]; exact hasc _ (List.getElem_mem _)
  have hc : Asc (B c) := by rw [ec]; exact hasc _ (List.getElem_mem _)
  have hsum : a.size + e.size + c.size ≤ tot x1 := by
    have h := congrArg tot (List.take_append_drop (p - 1) x1)
    rw [tot_append, List.drop_eq_getElem_cons (show p - 1 < x1.length by omega), tot_cons, List.drop_eq_getElem_cons (show p - 1 + 1 < x1.length by omega), tot_cons, List.drop_eq_getElem_cons (show p - 1 + 1 + 1 < x1.length by omega), tot_cons] at h
    simp only [show p - 1 + 1 = p by omega] at h
    rw [ea, ee, ec]
    omega
  rw [← ea, ← ee, ← ec]
  obtain ⟨n, hn, na, ne, nd, _⟩ := suffix_asc a e ha he (by omega) (by omega)
  have start : ∀ a' e' c', Moved a e c a' e' c' → ∃ d1 d2 d3, Moved a e c d1 d2 d3 ∧ ∀ r, (Evt (fun k => diffmatchpatch_DiffMatchPatch_DiffCleanupSemanticLossless.j6 k x1 (p : Int) d1 d2 d3) r → Evt (fun k => diffmatchpatch_DiffMatchPatch_DiffCleanupSemanticLossless.j2 k x1 (p : Int) a' e' c') r) := by
    intro a' e' c' hm
    obtain ⟨ga, ge, gc⟩ := hm.asc ha he hc
    have gs := hm.sizes
    obtain ⟨r1, hr1, l1, u1, _⟩ := score_ex a' e' (by omega) (by omega)
    obtain ⟨r2, hr2, l2, u2, _⟩ := score_ex e' c' (by omega) (by omega)
    obtain ⟨d1, d2, d3, g1, g2⟩ := inner x1 (p : Int) c'.size a' e' c' a' e' c' (r1 + r2) (Nat.le_refl _) (by omega) ga ge gc (Moved.refl _ _ _) (by omega) (by omega)
    refine ⟨d1, d2, d3, hm.trans g1, fun r h => ?_⟩
    refine Evt.succ (fun k => by rw [diffmatchpatch_DiffMatchPatch_DiffCleanupSemanticLossless.j2]) ?_
    refine Evt.bind hr1 (Evt.bind hr2 ?_)
    rw [wrap64_eq (by omega) (by omega)]
    exact g2 r h
  by_cases h0 : (n : Int) > 0
  · obtain ⟨X, hX⟩ : ∃ X, X = e.extract ((wrap64 ((e.size : Int) - (n : Int))) : Int).toNat e.size := ⟨_, rfl⟩
    obtain ⟨Y, hY⟩ : ∃ Y, Y = e.extract 0 ((wrap64 ((e.size : Int) - (n : Int))) : Int).toNat := ⟨_, rfl⟩
    obtain ⟨Z, hZ⟩ : ∃ Z, Z = a.extract 0 ((wrap64 ((a.size : Int) - (n : Int))) : Int).toNat := ⟨_, rfl⟩
    have we : wrap64 ((e.size : Int) - (n : Int)) = ((e.size - n : Nat) : Int) := wsub e.size n ne (by omega)
    have wa : wrap64 ((a.size : Int) - (n : Int)) = ((a.size - n : Nat) : Int) := wsub a.size n na (by omega)
    have bX : B X = (B e).drop (e.size - n) := by rw [hX, we, Int.toNat_natCast, B_from]
    have bY : B Y = (B e).take (e.size - n) := by rw [hY, we, Int.toNat_natCast, B_to]
    have bZ : B Z = (B a).take (a.size - n) := by rw [hZ, wa, Int.toNat_natCast, B_to]
    have hZX : B Z ++ B X = B a := by rw [bZ, bX, ← nd, List.take_append_drop]
    have hYX : B Y ++ B X = B e := by rw [bY, bX, List.take_append_drop]
    have hm : Moved a e c Z (X ++ Y) (X ++ c) := by
      refine ⟨?_, ?_, ?_⟩
      · rw [B_append, B_append, ← hZX, ← hYX]; simp only [List.append_assoc]
      · rw [B_append, ← hZX, List.append_assoc]
      · rw [← B_size, B_append, List.length_append, ← B_size e, ← hYX, List.length_append]; omega
    have sXY : X.size + Y.size = e.size := by rw [← B_size, ← B_size Y, ← B_size e, ← hYX, List.length_append]; omega
    obtain ⟨d1, d2, d3, g1, g2⟩ := start _ _ _ hm
    refine ⟨d1, d2, d3, g1, fun r h => ?_⟩
    refine Evt.succ (fun k => by rw [diffmatchpatch_DiffMatchPatch_DiffCleanupSemanticLossless.j1]) ?_
    rw [rd1, rd2, rd3]
    refine Evt.pos rfl (Evt.pos (by rw [w1]; omega) (Evt.pos (by rw [w1]; omega) (Evt.pos (by omega) (Evt.pos (by omega) (Evt.pos (by rw [w2]; omega) (Evt.pos (by rw [w2]; omega) ?_))))))
    refine Evt.bind hn (Evt.pos h0 ?_)
    refine Evt.pos (by rw [we]; omega) (Evt.pos (by rw [we]; omega) (Evt.pos (by rw [wa]; omega) (Evt.pos (by rw [wa]; omega) ?_)))
    rw [← hX, ← hY, ← hZ]
    exact Evt.pos (by omega) (Evt.pos (by omega) (g2 r h))
  · obtain ⟨d1, d2, d3, g1, g2⟩ := start a e c (Moved.refl _ _ _)
    refine ⟨d1, d2, d3, g1, fun r h => ?_⟩
    refine Evt.succ (fun k => by rw [diffmatchpatch_DiffMatchPatch_DiffCleanupSemanticLossless.j1]) ?_
    rw [rd1, rd2, rd3]
    refine Evt.pos rfl (Evt.pos (by rw [w1]; omega) (Evt.pos (by rw [w1]; omega) (Evt.pos (by omega) (Evt.pos (by omega) (Evt.pos (by rw [w2]; omega) (Evt.pos (by rw [w2]; omega) ?_))))))
    exact Evt.bind hn (Evt.neg h0 (g2 r h))
theorem set_at {α : Type} (m : List α) (x y : α) (post : List α) : (m ++ x :: post).set m.length y = m ++ y :: post := by simp
theorem erase_at {α : Type} (m : List α) (x : α) (post : List α) : (m ++ x :: post).eraseIdx m.length = m ++ post := by
  rw [List.eraseIdx_append_of_length_le (Nat.le_refl _), Nat.sub_self]; rfl
theorem rd_at (m : List DD) (x : DD) (post : List DD) (n : Nat) (h : n = m.length) : rd_T59 (m ++ x :: post) (n : Int) = x := by
  subst h
  rw [rdG _ _ (by simp)]
  simp
/-- A piece that is left if it has a text. -/
def opt (d : DD) (b : ByteArray) : List DD := if b.size = 0 then [] else [⟨d.f0, b⟩]
/-- The end of a round. -/
theorem finish (m post : List DD) (P E N : DD) (b1 b2 b3 : ByteArray) (r : List DD) (hl : (m ++ P :: E :: N :: post).length ≤ 100000) :
    (P.f1 = b1 → Evt (fun k => diffmatchpatch_DiffMatchPatch_DiffCleanupSemanticLossless.l0 k (m ++ P :: E :: N :: post) ((m.length + 2 : Nat) : Int)) r → Evt (fun k => diffmatchpatch_DiffMatchPatch_DiffCleanupSemanticLossless.j6 k (m ++ P :: E :: N :: post) ((m.length + 1 : Nat) : Int) b1 b2 b3) r) ∧
    (P.f1 ≠ b1 → Evt (fun k => diffmatchpatch_DiffMatchPatch_DiffCleanupSemanticLossless.l0 k (m ++ (opt P b1 ++ ((⟨E.f0, b2⟩ : DD) :: (opt N b3 ++ post)))) ((m.length + (opt P b1).length + (opt N b3).length : Nat) : Int)) r → Evt (fun k => diffmatchpatch_DiffMatchPatch_DiffCleanupSemanticLossless.j6 k (m ++ P :: E :: N :: post) ((m.length + 1 : Nat) : Int) b1 b2 b3) r) := by
  have hlen : (m ++ P :: E :: N :: post).length = m.length + post.length + 3 := by simp; omega
  rw [hlen] at hl
  have w0 : wrap64 (((m.length + 1 : Nat) : Int) - 1) = (m.length : Int) := by rw [wsub1 (m.length + 1) (by omega) (by omega)]; rfl
  have w1 : wrap64 (((m.length + 1 : Nat) : Int) + 1) = ((m.length + 2 : Nat) : Int) := wadd1 (m.length + 1) (by omega)
  have w2 : wrap64 (((m.length + 1 : Nat) : Int) + 2) = ((m.length + 3 : Nat) : Int) := wadd (m.length + 1) 2 (by omega)
  have w3 : wrap64 ((m.length : Int) + 1) = ((m.length + 1 : Nat) : Int) := wadd1 m.length (by omega)
  have w4 : wrap64 ((m.length : Int) + 2) = ((m.length + 2 : Nat) : Int) := wadd m.length 2 (by omega)
  have w5 : wrap64 (wrap64 ((m.length : Int) - 1) + 1) = (m.length : Int) := by rw [wrap64_eq (n := (m.length : Int) - 1) (by omega) (by omega), wrap64_eq (by omega) (by omega)]; omega
  have rP : rd_T59 (m ++ P :: E :: N :: post) (m.length : Int) = P := rd_at m P _ _ rfl
  have eqb : ∀ (x y : ByteArray), x.toList = y.toList ↔ x = y := fun x y => by rw [B_toList, B_toList]; exact ⟨fun h => B_inj h, fun h => by rw [h]⟩
  refine ⟨fun he h => ?_, fun hne h => ?_⟩
  · refine Evt.succ (fun k => by rw [diffmatchpatch_DiffMatchPatch_DiffCleanupSemanticLossless.j6]) ?_
    rw [w0, rP, w1, hlen]
    exact Evt.pos (by omega) (Evt.pos (by omega) (Evt.pos ((eqb _ _).2 he) h))
  refine Evt.succ (fun k => by rw [diffmatchpatch_DiffMatchPatch_DiffCleanupSemanticLossless.j6]) ?_
  rw [w0, rP, w1, w2, w3, w4, w5, hlen]
  refine Evt.pos (by omega) (Evt.pos (by omega) (Evt.neg (fun h => hne ((eqb _ _).1 h)) ?_))
  by_cases hb1 : b1.size = 0
  · refine Evt.pos (by omega) ?_
    have hs : diffmatchpatch_splice.f (m ++ P :: E :: N :: post) (m.length : Int) 1 ([] : List DD) = some (m ++ E :: N :: post) := by
      unfold diffmatchpatch_splice.f
      rw [if_pos ⟨by rw [hlen]; omega, by omega, by omega, by rw [hlen]; omega, by rw [hlen]; simp; omega⟩, Int.toNat_natCast, show ((m.length : Int) + 1).toNat = m.length + 1 by omega, List.take_left, List.append_nil]
      simp
    refine Evt.obind hs ?_
    have hlen2 : (m ++ E :: N :: post).length = m.length + post.length + 2 := by simp; omega
    rw [rd_at m E _ _ rfl, Int.toNat_natCast, set_at m E, hlen2]
    refine Evt.pos (by omega) (Evt.obind rfl ?_)
    have e2 : m ++ ({ f0 := E.f0, f1 := b2 } : DD) :: N :: post = (m ++ [({ f0 := E.f0, f1 := b2 } : DD)]) ++ N :: post := by simp
    have l2 : (m ++ [({ f0 := E.f0, f1 := b2 } : DD)]).length = m.length + 1 := by simp
    by_cases hb3 : b3.size = 0
    · refine Evt.pos (by omega) (Evt.pos (by omega) (Evt.pos (by omega) (Evt.pos (by omega) (Evt.pos (by omega) ?_))))
      rw [Int.toNat_natCast, e2, ← l2, erase_at]
      simpa [opt, hb1, hb3] using h
    · refine Evt.neg (by omega) (Evt.pos (by omega) (Evt.pos (by omega) ?_))
      rw [Int.toNat_natCast, e2, rd_at _ N _ _ l2.symm, ← l2, set_at]
      simpa [opt, hb1, hb3] using h
  · refine Evt.neg (by omega) ?_
    rw [Int.toNat_natCast, Int.toNat_natCast, set_at m P]
    refine Evt.obind rfl ?_
    have e1 : m ++ ({ f0 := P.f0, f1 := b1 } : DD) :: E :: N :: post = (m ++ [({ f0 := P.f0, f1 := b1 } : DD)]) ++ E :: N :: post := by simp
    have l1 : (m ++ [({ f0 := P.f0, f1 := b1 } : DD)]).length = m.length + 1 := by simp
    refine Evt.pos (by omega) (Evt.pos (by omega) ?_)
    rw [e1, rd_at _ E _ _ l1.symm, ← l1, set_at]
    refine Evt.obind rfl ?_
    have e2 : (m ++ [({ f0 := P.f0, f1 := b1 } : DD)]) ++ ({ f0 := E.f0, f1 := b2 } : DD) :: N :: post = (m ++ [({ f0 := P.f0, f1 := b1 } : DD), ({ f0 := E.f0, f1 := b2 } : DD)]) ++ N :: post := by simp
    have l2 : (m ++ [({ f0 := P.f0, f1 := b1 } : DD), ({ f0 := E.f0, f1 := b2 } : DD)]).length = m.length + 2 := by simp
    by_cases hb3 : b3.size = 0
    · refine Evt.pos (by omega) (Evt.pos (by omega) (Evt.pos (by omega) (Evt.pos (by omega) (Evt.pos (by omega) ?_))))
      rw [Int.toNat_natCast, e2, ← l2, erase_at]
      simpa [opt, hb1, hb3] using h
    · refine Evt.neg (by omega) (Evt.pos (by omega) (Evt.pos (by omega) ?_))
      rw [Int.toNat_natCast, e2, rd_at _ N _ _ l2.symm, ← l2, set_at, show (m ++ [({ f0 := P.f0, f1 := b1 } : DD), ({ f0 := E.f0, f1 := b2 } : DD)]).length = m.length + 1 + 1 from by simp]
      simpa [opt, hb1, hb3] using h
theorem split3 (l : List DD) (p : Nat) (h1 : 1 ≤ p) (h2 : p + 1 < l.length) : l = l.take (p - 1) ++ (l[p - 1]'(by omega)) :: (l[p]'(by omega)) :: (l[p + 1]'(by omega)) :: l.drop (p + 2) := by
  conv => lhs; rw [← List.take_append_drop (p - 1) l]
  rw [List.drop_eq_getElem_cons (show p - 1 < l.length by omega), List.drop_eq_getElem_cons (show p - 1 + 1 < l.length by omega), List.drop_eq_getElem_cons (show p - 1 + 1 + 1 < l.length by omega)]
  simp only [show p - 1 + 1 = p by omega]
theorem opt_tot (d : DD) (b : ByteArray) : tot (opt d b) = b.size := by
  unfold opt
  split
  · rename_i h; rw [h]; rfl
  · simp [tot]
theorem opt_side (but : Int) (d : DD) (b : ByteArray) (h : d.f0 ≠ but) : sideD but (opt d b) = B b := by
  unfold opt
  split
  · rename_i h0; rw [size0 h0]; rfl
  · simp [sideD, h]
theorem opt_ed (d : DD) (b : ByteArray) (h : d.f0 = 0) : edD (opt d b) = [] := by
  unfold opt
  split
  · rfl
  · simp [edD, h]
theorem opt_mem {d x : DD} {b : ByteArray} (h : x ∈ opt d b) : x.f0 = d.f0 ∧ x.f1 = b := by
  unfold opt at h
  split at h
  · cases h
  · rw [List.mem_singleton.1 h]; exact ⟨rfl, rfl⟩
theorem opt_len (d : DD) (b : ByteArray) : (opt d b).length ≤ 1 := by unfold opt; split <;> simp
/-- A round's list is shifted. -/
theorem shift_round (m post : List DD) (P E N : DD) (b1 b2 b3 : ByteArray) (hP : P.f0 = 0) (hN : N.f0 = 0) (ha : AscD (m ++ P :: E :: N :: post)) (hm : Moved P.f1 E.f1 N.f1 b1 b2 b3) :
    Shift (m ++ P :: E :: N :: post) (m ++ (opt P b1 ++ ((⟨E.f0, b2⟩ : DD) :: (opt N b3 ++ post)))) := by
  have aP := ha P (by simp)
  have aE := ha E (by simp)
  have aN := ha N (by simp)
  obtain ⟨g1, g2, g3⟩ := hm.asc aP aE aN
  have gs := hm.sizes
  refine ⟨fun but hb => ?_, ?_, ?_, ?_, ?_, ?_⟩
  · have e1 : ¬ (P.f0 = but) := by rw [hP]; exact fun h => hb h.symm
    have e2 : ¬ (N.f0 = but) := by rw [hN]; exact fun h => hb h.symm
    rw [sideD_append, sideD_append, sideD_append, sideD_cons, sideD_cons, sideD_cons, sideD_cons, sideD_append, opt_side _ _ _ e1, opt_side _ _ _ e2, if_neg e1, if_neg e2]
    congr 1
    by_cases e3 : E.f0 = but
    · rw [if_pos e3, if_pos e3, List.nil_append, List.nil_append, ← List.append_assoc, ← List.append_assoc, hm.out]
    · rw [if_neg e3, if_neg e3]
      have := congrArg (· ++ sideD but post) hm.all
      simp only [List.append_assoc] at this ⊢
      exact this.symm
  · rw [edD_append, edD_append, edD_append, edD_cons, edD_cons, edD_cons, edD_cons, edD_append, opt_ed _ _ hP, opt_ed _ _ hN, if_pos hP, if_pos hN]
    simp [hm.len]
  · have h1 := opt_len P b1
    have h2 := opt_len N b3
    simp only [List.length_append, List.length_cons]
    omega
  · refine AscD.append (fun x hx => ha x (by simp [hx])) (AscD.append (fun x hx => by rw [(opt_mem hx).2]; exact g1) (fun x hx => ?_))
    rcases List.mem_cons.1 hx with rfl | hx
    · exact g2
    · rcases List.mem_append.1 hx with hx | hx
      · rw [(opt_mem hx).2]; exact g3
      · exact ha x (by simp [hx])
  · rw [tot_append, tot_append, tot_append, tot_cons, tot_cons, tot_cons, tot_cons, tot_append, opt_tot, opt_tot]
    simp only
    omega
  · intro ht x hx
    rcases List.mem_append.1 hx with hx | hx
    · exact ht x (by simp [hx])
    rcases List.mem_append.1 hx with hx | hx
    · rw [(opt_mem hx).1]; exact ht P (by simp)
    rcases List.mem_cons.1 hx with rfl | hx
    · exact ht E (by simp)
    rcases List.mem_append.1 hx with hx | hx
    · rw [(opt_mem hx).1]; exact ht N (by simp)
    · exact ht x (by simp [hx])
/-- The loop: it ends with a shifted list. -/
theorem lossless_loop : ∀ (n p : Nat) (l : List DD), l.length ≤ p + n → 1 ≤ p → l.length ≤ 100000 → tot l ≤ 100000 → AscD l → ∃ r, Evt (fun k => diffmatchpatch_DiffMatchPatch_DiffCleanupSemanticLossless.l0 k l (p : Int)) r ∧ Shift l r := by
  intro n
  induction n with
  | zero =>
    intro p l hn hp hl _ ha
    refine ⟨l, ?_, Shift.refl ha⟩
    refine Evt.succ (fun k => by rw [diffmatchpatch_DiffMatchPatch_DiffCleanupSemanticLossless.l0]) ?_
    rw [wrap64_eq (n := (l.length : Int) - 1) (by omega) (by omega)]
    exact Evt.neg (by omega) (Evt.ret _)
  | succ n ih =>
    intro p l hn hp hl ht ha
    by_cases h0 : p + 1 < l.length
    rotate_left
    · refine ⟨l, ?_, Shift.refl ha⟩
      refine Evt.succ (fun k => by rw [diffmatchpatch_DiffMatchPatch_DiffCleanupSemanticLossless.l0]) ?_
      rw [wrap64_eq (n := (l.length : Int) - 1) (by omega) (by omega)]
      exact Evt.neg (by omega) (Evt.ret _)
    have w1 : wrap64 ((p : Int) - 1) = ((p - 1 : Nat) : Int) := wsub1 p hp (by omega)
    have w2 : wrap64 ((p : Int) + 1) = ((p + 1 : Nat) : Int) := wadd1 p (by omega)
    have w3 : wrap64 ((l.length : Int) - 1) = ((l.length - 1 : Nat) : Int) := wsub1 l.length (by omega) (by omega)
    have next : ∀ q r', Evt (fun k => diffmatchpatch_DiffMatchPatch_DiffCleanupSemanticLossless.l0 k l ((p + 1 : Nat) : Int)) r' → Evt (fun k => diffmatchpatch_DiffMatchPatch_DiffCleanupSemanticLossless.j1 k l (p : Int) q) r' → q = false → Evt (fun k => diffmatchpatch_DiffMatchPatch_DiffCleanupSemanticLossless.j1 k l (p : Int) q) r' := fun _ _ _ h _ => h
    have hstep : ∀ (q : Bool) r', q = (((l[p - 1]'(by omega)).f0 == 0) && ((l[p + 1]'(by omega)).f0 == 0)) → Evt (fun k => diffmatchpatch_DiffMatchPatch_DiffCleanupSemanticLossless.j1 k l (p : Int) q) r' → Evt (fun k => diffmatchpatch_DiffMatchPatch_DiffCleanupSemanticLossless.l0 k l (p : Int)) r' := by
      intro q r' hq h
      refine Evt.succ (fun k => by rw [diffmatchpatch_DiffMatchPatch_DiffCleanupSemanticLossless.l0]) ?_
      rw [w1, w2, w3, rdG l _ (by omega), rdG l _ (by omega)]
      refine Evt.pos (by omega) (Evt.pos (by omega) (Evt.pos (by omega) ?_))
      by_cases e : (l[p - 1]'(by omega)).f0 = 0
      · refine Evt.pos e (Evt.pos (by omega) (Evt.pos (by omega) ?_))
        rw [show (((l[p + 1]'(by omega)).f0) == 0) = q from by rw [hq]; simp [e]]
        exact h
      · refine Evt.neg e ?_
        rw [show false = q from by rw [hq]; simp [e]]
        exact h
    by_cases hq : (((l[p - 1]'(by omega)).f0 == 0) && ((l[p + 1]'(by omega)).f0 == 0)) = true
    · obtain ⟨q1, q2⟩ : (l[p - 1]'(by omega)).f0 = 0 ∧ (l[p + 1]'(by omega)).f0 = 0 := by simpa using hq
      have hsp := split3 l p hp h0
      have hml : (l.take (p - 1)).length = p - 1 := by rw [List.length_take]; omega
      obtain ⟨P, hP⟩ : ∃ P, P = l[p - 1]'(by omega) := ⟨_, rfl⟩
      obtain ⟨E, hE⟩ : ∃ E, E = l[p]'(by omega) := ⟨_, rfl⟩
      obtain ⟨N, hN⟩ : ∃ N, N = l[p + 1]'(by omega) := ⟨_, rfl⟩
      obtain ⟨d1, d2, d3, hm, hgo⟩ := round l p hp h0 hl ht ha
      obtain ⟨m, hmm⟩ : ∃ m, m = l.take (p - 1) := ⟨_, rfl⟩
      obtain ⟨post, hpo⟩ : ∃ post, post = l.drop (p + 2) := ⟨_, rfl⟩
      rw [← hP, ← hE, ← hN, ← hmm, ← hpo] at hsp
      rw [← hP] at q1
      rw [← hN] at q2
      rw [← hP, ← hE, ← hN] at hm
      rw [← hmm] at hml
      have hpm : (p : Int) = ((m.length + 1 : Nat) : Int) := by omega
      have hfin := fun r => finish m post P E N d1 d2 d3 r (by rw [← hsp]; exact hl)
      rw [← hsp, ← hpm] at hfin
      by_cases hne : P.f1 = d1
      · obtain ⟨r, hr, hs⟩ := ih (p + 1) l (by omega) (by omega) hl ht ha
        refine ⟨r, hstep true r hq.symm (hgo r ((hfin r).1 hne ?_)), hs⟩
        rw [show m.length + 2 = p + 1 by omega]
        exact hr
      · have hsh := shift_round m post P E N d1 d2 d3 q1 q2 (by rw [← hsp]; exact ha) hm
        rw [← hsp] at hsh
        have hll := hsh.len
        have ho1 := opt_len P d1
        have ho2 := opt_len N d3
        have hsz := hm.sizes
        have hlenq : (m ++ (opt P d1 ++ ((⟨E.f0, d2⟩ : DD) :: (opt N d3 ++ post)))).length = m.length + (opt P d1).length + 1 + (opt N d3).length + post.length := by simp only [List.length_append, List.length_cons]; omega
        have hlp : l.length = m.length + post.length + 3 := by rw [hsp]; simp; omega
        have h1q : 1 ≤ m.length + (opt P d1).length + (opt N d3).length := by
          rcases Nat.eq_zero_or_pos (m.length + (opt P d1).length + (opt N d3).length) with h | h
          · exfalso
            have e1 : d1.size = 0 := by
              rcases Nat.eq_zero_or_pos d1.size with h' | h'
              · exact h'
              · exfalso
                have : (opt P d1).length = 1 := by unfold opt; rw [if_neg (by omega)]; rfl
                omega
            have e3 : d3.size = 0 := by
              rcases Nat.eq_zero_or_pos d3.size with h' | h'
              · exact h'
              · exfalso
                have : (opt N d3).length = 1 := by unfold opt; rw [if_neg (by omega)]; rfl
                omega
            have ho := congrArg List.length hm.out
            simp only [List.length_append, B_size] at ho
            apply hne
            rw [size0 (show P.f1.size = 0 by omega), size0 e1]
          · exact h
        obtain ⟨r, hr, hs⟩ := ih (m.length + (opt P d1).length + (opt N d3).length) _ (by rw [hlenq]; omega) h1q (by omega) (by rw [hsh.tot]; exact ht) hsh.asc
        exact ⟨r, hstep true r hq.symm (hgo r ((hfin r).2 hne hr)), hsh.trans hs⟩
    · obtain ⟨r, hr, hs⟩ := ih (p + 1) l (by omega) (by omega) hl ht ha
      refine ⟨r, hstep false r (by simpa using hq) ?_, hs⟩
      refine Evt.succ (fun k => by rw [diffmatchpatch_DiffMatchPatch_DiffCleanupSemanticLossless.j1]) ?_
      refine Evt.neg (by simp) ?_
      rw [w2]
      exact hr
end Go.Proofs.YtaabfadjemmibaaDoor.P
