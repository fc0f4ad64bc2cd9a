-- Written by a program of this session (wip/tools): the printer's text for functions of the seat YtaabfadjemmibaaDoor. Not trusted: Lean checks it.
import Derived.Test.YtaabfadjemmibaaDoorPx0
import Derived.Test.YtaabfadjemmibaaDoorPx4
import Derived.Test.YtaabfadjemmibaaDoorXDec
namespace Go.Proofs.YtaabfadjemmibaaDoor.P
open Go.RowKit Go.Proofs.YtaabfadjemmibaaDoorW.PrintWords Go.Proofs.YtaabfadjemmibaaDoorW.PrintLast Go.Proofs.YtaabfadjemmibaaDoorW.PrintMore
attribute [local go_sem] max2_int min2_int max_two min_two max_three min_three max_four min_four   -- for this text's walks alone
open Go.Proofs.YtaabfadjemmibaaDoorX
set_option linter.unusedVariables false
set_option linter.unusedSimpArgs false
/-! ### diffmatchpatch_diffCleanupSemanticScore: function 47 -/
mutual
def diffmatchpatch_diffCleanupSemanticScore.j0 : Nat → ByteArray → ByteArray → Bool → Option (Int)
 | 0, _, _, _ => none
 | k + 1, x0, x1, x24 => if x24 = true then (some 6) else ((utf8_DecodeLastRuneInString.f x0).bind fun bt134 => ((utf8_DecodeRuneInString.f x1).bind fun bt136 => ((diffmatchpatch_zzNotAlnum.f bt134.1).bind fun t138 => ((diffmatchpatch_zzNotAlnum.f bt136.1).bind fun t139 => (if t138 = true then ((diffmatchpatch_zzWhite.f bt134.1).bind fun t140 => (diffmatchpatch_diffCleanupSemanticScore.j1 k x0 x1 bt134.1 bt136.1 t138 t139 t140)) else (diffmatchpatch_diffCleanupSemanticScore.j1 k x0 x1 bt134.1 bt136.1 t138 t139 false))))))
def diffmatchpatch_diffCleanupSemanticScore.j1 : Nat → ByteArray → ByteArray → Int → Int → Bool → Bool → Bool → Option (Int)
 | 0, _, _, _, _, _, _, _ => none
 | k + 1, x0, x1, x5, x7, x9, x10, x11 => if x10 = true then ((diffmatchpatch_zzWhite.f x7).bind fun t141 => (diffmatchpatch_diffCleanupSemanticScore.j2 k x0 x1 x5 x7 x9 x10 x11 t141)) else (diffmatchpatch_diffCleanupSemanticScore.j2 k x0 x1 x5 x7 x9 x10 x11 false)
def diffmatchpatch_diffCleanupSemanticScore.j2 : Nat → ByteArray → ByteArray → Int → Int → Bool → Bool → Bool → Bool → Option (Int)
 | 0, _, _, _, _, _, _, _, _ => none
 | k + 1, x0, x1, x5, x7, x9, x10, x11, x12 => if x11 = true then ((diffmatchpatch_zzBreak.f x5).bind fun t142 => (diffmatchpatch_diffCleanupSemanticScore.j3 k x0 x1 x7 x9 x10 x11 x12 t142)) else (diffmatchpatch_diffCleanupSemanticScore.j3 k x0 x1 x7 x9 x10 x11 x12 false)
def diffmatchpatch_diffCleanupSemanticScore.j3 : Nat → ByteArray → ByteArray → Int → Bool → Bool → Bool → Bool → Bool → Option (Int)
 | 0, _, _, _, _, _, _, _, _ => none
 | k + 1, x0, x1, x7, x9, x10, x11, x12, x13 => if x12 = true then ((diffmatchpatch_zzBreak.f x7).bind fun t143 => (diffmatchpatch_diffCleanupSemanticScore.j4 k x0 x1 x9 x10 x11 x12 x13 t143)) else (diffmatchpatch_diffCleanupSemanticScore.j4 k x0 x1 x9 x10 x11 x12 x13 false)
def diffmatchpatch_diffCleanupSemanticScore.j4 : Nat → ByteArray → ByteArray → Bool → Bool → Bool → Bool → Bool → Bool → Option (Int)
 | 0, _, _, _, _, _, _, _, _ => none
 | k + 1, x0, x1, x9, x10, x11, x12, x13, x14 => if x13 = true then ((diffmatchpatch_zzBlankEnd.f x0).bind fun t144 => (diffmatchpatch_diffCleanupSemanticScore.j5 k x1 x9 x10 x11 x12 x13 x14 t144)) else (diffmatchpatch_diffCleanupSemanticScore.j5 k x1 x9 x10 x11 x12 x13 x14 false)
def diffmatchpatch_diffCleanupSemanticScore.j5 : Nat → ByteArray → Bool → Bool → Bool → Bool → Bool → Bool → Bool → Option (Int)
 | 0, _, _, _, _, _, _, _, _ => none
 | k + 1, x1, x9, x10, x11, x12, x13, x14, x15 => if x14 = true then ((diffmatchpatch_zzBlankEnd.f x1).bind fun t145 => (diffmatchpatch_diffCleanupSemanticScore.j6 k x9 x10 x11 x12 x13 x14 x15 t145)) else (diffmatchpatch_diffCleanupSemanticScore.j6 k x9 x10 x11 x12 x13 x14 x15 false)
def diffmatchpatch_diffCleanupSemanticScore.j6 : Nat → Bool → Bool → Bool → Bool → Bool → Bool → Bool → Bool → Option (Int)
 | 0, _, _, _, _, _, _, _, _ => none
 | k + 1, x9, x10, x11, x12, x13, x14, x15, x16 => if x15 = true then (diffmatchpatch_diffCleanupSemanticScore.j7 k x9 x10 x11 x12 x13 x14 true) else (diffmatchpatch_diffCleanupSemanticScore.j7 k x9 x10 x11 x12 x13 x14 x16)
def diffmatchpatch_diffCleanupSemanticScore.j7 : Nat → Bool → Bool → Bool → Bool → Bool → Bool → Bool → Option (Int)
 | 0, _, _, _, _, _, _, _ => none
 | k + 1, x9, x10, x11, x12, x13, x14, x72 => if x72 = true then (some 5) else (if x13 = true then (diffmatchpatch_diffCleanupSemanticScore.j8 k x9 x10 x11 x12 true) else (diffmatchpatch_diffCleanupSemanticScore.j8 k x9 x10 x11 x12 x14))
def diffmatchpatch_diffCleanupSemanticScore.j8 : Nat → Bool → Bool → Bool → Bool → Bool → Option (Int)
 | 0, _, _, _, _, _ => none
 | k + 1, x9, x10, x11, x12, x76 => if x76 = true then (some 4) else (if x9 = true then (if x11 = true then (diffmatchpatch_diffCleanupSemanticScore.j9 k x9 x10 x11 x12 false) else (diffmatchpatch_diffCleanupSemanticScore.j9 k x9 x10 x11 x12 x12)) else (diffmatchpatch_diffCleanupSemanticScore.j9 k x9 x10 x11 x12 false))
def diffmatchpatch_diffCleanupSemanticScore.j9 : Nat → Bool → Bool → Bool → Bool → Bool → Option (Int)
 | 0, _, _, _, _, _ => none
 | k + 1, x9, x10, x11, x12, x84 => if x84 = true then (some 3) else (if x11 = true then (diffmatchpatch_diffCleanupSemanticScore.j10 k x9 x10 true) else (diffmatchpatch_diffCleanupSemanticScore.j10 k x9 x10 x12))
def diffmatchpatch_diffCleanupSemanticScore.j10 : Nat → Bool → Bool → Bool → Option (Int)
 | 0, _, _, _ => none
 | k + 1, x9, x10, x88 => if x88 = true then (some 2) else (if x9 = true then (some 1) else (if x10 = true then (some 1) else (some 0)))
end
def diffmatchpatch_diffCleanupSemanticScore.f (k : Nat) (a0 : ByteArray) (a1 : ByteArray) : Option (Int) := if (a0.size : Int) = 0 then (diffmatchpatch_diffCleanupSemanticScore.j0 k a0 a1 true) else (diffmatchpatch_diffCleanupSemanticScore.j0 k a0 a1 ((a1.size : Int) == 0))
theorem diffmatchpatch_diffCleanupSemanticScore.mono_l : ∀ k, (∀ y0 y1 y2, LeO (diffmatchpatch_diffCleanupSemanticScore.j0 k y0 y1 y2) (diffmatchpatch_diffCleanupSemanticScore.j0 (k + 1) y0 y1 y2)) ∧ (∀ y0 y1 y2 y3 y4 y5 y6, LeO (diffmatchpatch_diffCleanupSemanticScore.j1 k y0 y1 y2 y3 y4 y5 y6) (diffmatchpatch_diffCleanupSemanticScore.j1 (k + 1) y0 y1 y2 y3 y4 y5 y6)) ∧ (∀ y0 y1 y2 y3 y4 y5 y6 y7, LeO (diffmatchpatch_diffCleanupSemanticScore.j2 k y0 y1 y2 y3 y4 y5 y6 y7) (diffmatchpatch_diffCleanupSemanticScore.j2 (k + 1) y0 y1 y2 y3 y4 y5 y6 y7)) ∧ (∀ y0 y1 y2 y3 y4 y5 y6 y7, LeO (diffmatchpatch_diffCleanupSemanticScore.j3 k y0 y1 y2 y3 y4 y5 y6 y7) (diffmatchpatch_diffCleanupSemanticScore.j3 (k + 1) y0 y1 y2 y3 y4 y5 y6 y7)) ∧ (∀ y0 y1 y2 y3 y4 y5 y6 y7, LeO (diffmatchpatch_diffCleanupSemanticScore.j4 k y0 y1 y2 y3 y4 y5 y6 y7) (diffmatchpatch_diffCleanupSemanticScore.j4 (k + 1) y0 y1 y2 y3 y4 y5 y6 y7)) ∧ (∀ y0 y1 y2 y3 y4 y5 y6 y7, LeO (diffmatchpatch_diffCleanupSemanticScore.j5 k y0 y1 y2 y3 y4 y5 y6 y7) (diffmatchpatch_diffCleanupSemanticScore.j5 (k + 1) y0 y1 y2 y3 y4 y5 y6 y7)) ∧ (∀ y0 y1 y2 y3 y4 y5 y6 y7, LeO (diffmatchpatch_diffCleanupSemanticScore.j6 k y0 y1 y2 y3 y4 y5 y6 y7) (diffmatchpatch_diffCleanupSemanticScore.j6 (k + 1) y0 y1 y2 y3 y4 y5 y6 y7)) ∧ (∀ y0 y1 y2 y3 y4 y5 y6, LeO (diffmatchpatch_diffCleanupSemanticScore.j7 k y0 y1 y2 y3 y4 y5 y6) (diffmatchpatch_diffCleanupSemanticScore.j7 (k + 1) y0 y1 y2 y3 y4 y5 y6)) ∧ (∀ y0 y1 y2 y3 y4, LeO (diffmatchpatch_diffCleanupSemanticScore.j8 k y0 y1 y2 y3 y4) (diffmatchpatch_diffCleanupSemanticScore.j8 (k + 1) y0 y1 y2 y3 y4)) ∧ (∀ y0 y1 y2 y3 y4, LeO (diffmatchpatch_diffCleanupSemanticScore.j9 k y0 y1 y2 y3 y4) (diffmatchpatch_diffCleanupSemanticScore.j9 (k + 1) y0 y1 y2 y3 y4)) ∧ (∀ y0 y1 y2, LeO (diffmatchpatch_diffCleanupSemanticScore.j10 k y0 y1 y2) (diffmatchpatch_diffCleanupSemanticScore.j10 (k + 1) y0 y1 y2))
 | 0 => ⟨fun _ _ _ r h => by simp [diffmatchpatch_diffCleanupSemanticScore.j0] at h, fun _ _ _ _ _ _ _ r h => by simp [diffmatchpatch_diffCleanupSemanticScore.j1] at h, fun _ _ _ _ _ _ _ _ r h => by simp [diffmatchpatch_diffCleanupSemanticScore.j2] at h, fun _ _ _ _ _ _ _ _ r h => by simp [diffmatchpatch_diffCleanupSemanticScore.j3] at h, fun _ _ _ _ _ _ _ _ r h => by simp [diffmatchpatch_diffCleanupSemanticScore.j4] at h, fun _ _ _ _ _ _ _ _ r h => by simp [diffmatchpatch_diffCleanupSemanticScore.j5] at h, fun _ _ _ _ _ _ _ _ r h => by simp [diffmatchpatch_diffCleanupSemanticScore.j6] at h, fun _ _ _ _ _ _ _ r h => by simp [diffmatchpatch_diffCleanupSemanticScore.j7] at h, fun _ _ _ _ _ r h => by simp [diffmatchpatch_diffCleanupSemanticScore.j8] at h, fun _ _ _ _ _ r h => by simp [diffmatchpatch_diffCleanupSemanticScore.j9] at h, fun _ _ _ r h => by simp [diffmatchpatch_diffCleanupSemanticScore.j10] at h⟩
 | k + 1 => by
  obtain ⟨ih0, ih1, ih2, ih3, ih4, ih5, ih6, ih7, ih8, ih9, ih10⟩ := diffmatchpatch_diffCleanupSemanticScore.mono_l k
  refine ⟨?_, ?_, ?_, ?_, ?_, ?_, ?_, ?_, ?_, ?_, ?_⟩
  ·intro y0 y1 y2
   unfold diffmatchpatch_diffCleanupSemanticScore.j0
   repeat' first
   | (with_reducible exact ih0 _ _ _)
   | (with_reducible exact ih1 _ _ _ _ _ _ _)
   | (with_reducible exact ih2 _ _ _ _ _ _ _ _)
   | (with_reducible exact ih3 _ _ _ _ _ _ _ _)
   | (with_reducible exact ih4 _ _ _ _ _ _ _ _)
   | (with_reducible exact ih5 _ _ _ _ _ _ _ _)
   | (with_reducible exact ih6 _ _ _ _ _ _ _ _)
   | (with_reducible exact ih7 _ _ _ _ _ _ _)
   | (with_reducible exact ih8 _ _ _ _ _)
   | (with_reducible exact ih9 _ _ _ _ _)
   | (with_reducible exact ih10 _ _ _)
   | (with_reducible exact LeO.refl _)
   | (with_reducible exact LeO.none _)
   | (with_reducible refine LeO.ite ?_ ?_)
   | (with_reducible refine LeO.bind ?_ (fun _ => ?_))
   | exact ih0 _ _ _
   | exact ih1 _ _ _ _ _ _ _
   | exact ih2 _ _ _ _ _ _ _ _
   | exact ih3 _ _ _ _ _ _ _ _
   | exact ih4 _ _ _ _ _ _ _ _
   | exact ih5 _ _ _ _ _ _ _ _
   | exact ih6 _ _ _ _ _ _ _ _
   | exact ih7 _ _ _ _ _ _ _
   | exact ih8 _ _ _ _ _
   | exact ih9 _ _ _ _ _
   | exact ih10 _ _ _
   | exact LeO.none _
   | refine LeO.ite ?_ ?_
   | refine LeO.bind ?_ (fun _ => ?_)
  ·intro y0 y1 y2 y3 y4 y5 y6
   unfold diffmatchpatch_diffCleanupSemanticScore.j1
   repeat' first
   | (with_reducible exact ih0 _ _ _)
   | (with_reducible exact ih1 _ _ _ _ _ _ _)
   | (with_reducible exact ih2 _ _ _ _ _ _ _ _)
   | (with_reducible exact ih3 _ _ _ _ _ _ _ _)
   | (with_reducible exact ih4 _ _ _ _ _ _ _ _)
   | (with_reducible exact ih5 _ _ _ _ _ _ _ _)
   | (with_reducible exact ih6 _ _ _ _ _ _ _ _)
   | (with_reducible exact ih7 _ _ _ _ _ _ _)
   | (with_reducible exact ih8 _ _ _ _ _)
   | (with_reducible exact ih9 _ _ _ _ _)
   | (with_reducible exact ih10 _ _ _)
   | (with_reducible exact LeO.refl _)
   | (with_reducible exact LeO.none _)
   | (with_reducible refine LeO.ite ?_ ?_)
   | (with_reducible refine LeO.bind ?_ (fun _ => ?_))
   | exact ih0 _ _ _
   | exact ih1 _ _ _ _ _ _ _
   | exact ih2 _ _ _ _ _ _ _ _
   | exact ih3 _ _ _ _ _ _ _ _
   | exact ih4 _ _ _ _ _ _ _ _
   | exact ih5 _ _ _ _ _ _ _ _
   | exact ih6 _ _ _ _ _ _ _ _
   | exact ih7 _ _ _ _ _ _ _
   | exact ih8 _ _ _ _ _
   | exact ih9 _ _ _ _ _
   | exact ih10 _ _ _
   | exact LeO.none _
   | refine LeO.ite ?_ ?_
   | refine LeO.bind ?_ (fun _ => ?_)
  ·intro y0 y1 y2 y3 y4 y5 y6 y7
   unfold diffmatchpatch_diffCleanupSemanticScore.j2
   repeat' first
   | (with_reducible exact ih0 _ _ _)
   | (with_reducible exact ih1 _ _ _ _ _ _ _)
   | (with_reducible exact ih2 _ _ _ _ _ _ _ _)
   | (with_reducible exact ih3 _ _ _ _ _ _ _ _)
   | (with_reducible exact ih4 _ _ _ _ _ _ _ _)
   | (with_reducible exact ih5 _ _ _ _ _ _ _ _)
   | (with_reducible exact ih6 _ _ _ _ _ _ _ _)
   | (with_reducible exact ih7 _ _ _ _ _ _ _)
   | (with_reducible exact ih8 _ _ _ _ _)
   | (with_reducible exact ih9 _ _ _ _ _)
   | (with_reducible exact ih10 _ _ _)
   | (with_reducible exact LeO.refl _)
   | (with_reducible exact LeO.none _)
   | (with_reducible refine LeO.ite ?_ ?_)
   | (with_reducible refine LeO.bind ?_ (fun _ => ?_))
   | exact ih0 _ _ _
   | exact ih1 _ _ _ _ _ _ _
   | exact ih2 _ _ _ _ _ _ _ _
   | exact ih3 _ _ _ _ _ _ _ _
   | exact ih4 _ _ _ _ _ _ _ _
   | exact ih5 _ _ _ _ _ _ _ _
   | exact ih6 _ _ _ _ _ _ _ _
   | exact ih7 _ _ _ _ _ _ _
   | exact ih8 _ _ _ _ _
   | exact ih9 _ _ _ _ _
   | exact ih10 _ _ _
   | exact LeO.none _
   | refine LeO.ite ?_ ?_
   | refine LeO.bind ?_ (fun _ => ?_)
  ·intro y0 y1 y2 y3 y4 y5 y6 y7
   unfold diffmatchpatch_diffCleanupSemanticScore.j3
   repeat' first
   | (with_reducible exact ih0 _ _ _)
   | (with_reducible exact ih1 _ _ _ _ _ _ _)
   | (with_reducible exact ih2 _ _ _ _ _ _ _ _)
   | (with_reducible exact ih3 _ _ _ _ _ _ _ _)
   | (with_reducible exact ih4 _ _ _ _ _ _ _ _)
   | (with_reducible exact ih5 _ _ _ _ _ _ _ _)
   | (with_reducible exact ih6 _ _ _ _ _ _ _ _)
   | (with_reducible exact ih7 _ _ _ _ _ _ _)
   | (with_reducible exact ih8 _ _ _ _ _)
   | (with_reducible exact ih9 _ _ _ _ _)
   | (with_reducible exact ih10 _ _ _)
   | (with_reducible exact LeO.refl _)
   | (with_reducible exact LeO.none _)
   | (with_reducible refine LeO.ite ?_ ?_)
   | (with_reducible refine LeO.bind ?_ (fun _ => ?_))
   | exact ih0 _ _ _
   | exact ih1 _ _ _ _ _ _ _
   | exact ih2 _ _ _ _ _ _ _ _
   | exact ih3 _ _ _ _ _ _ _ _
   | exact ih4 _ _ _ _ _ _ _ _
   | exact ih5 _ _ _ _ _ _ _ _
   | exact ih6 _ _ _ _ _ _ _ _
   | exact ih7 _ _ _ _ _ _ _
   | exact ih8 _ _ _ _ _
   | exact ih9 _ _ _ _ _
   | exact ih10 _ _ _
   | exact LeO.none _
   | refine LeO.ite ?_ ?_
   | refine LeO.bind ?_ (fun _ => ?_)
  ·intro y0 y1 y2 y3 y4 y5 y6 y7
   unfold diffmatchpatch_diffCleanupSemanticScore.j4
   repeat' first
   | (with_reducible exact ih0 _ _ _)
   | (with_reducible exact ih1 _ _ _ _ _ _ _)
   | (with_reducible exact ih2 _ _ _ _ _ _ _ _)
   | (with_reducible exact ih3 _ _ _ _ _ _ _ _)
   | (with_reducible exact ih4 _ _ _ _ _ _ _ _)
   | (with_reducible exact ih5 _ _ _ _ _ _ _ _)
   | (with_reducible exact ih6 _ _ _ _ _ _ _ _)
   | (with_reducible exact ih7 _ _ _ _ _ _ _)
   | (with_reducible exact ih8 _ _ _ _ _)
   | (with_reducible exact ih9 _ _ _ _ _)
   | (with_reducible exact ih10 _ _ _)
   | (with_reducible exact LeO.refl _)
   | (with_reducible exact LeO.none _)
   | (with_reducible refine LeO.ite ?_ ?_)
   | (with_reducible refine LeO.bind ?_ (fun _ => ?_))
   | exact ih0 _ _ _
   | exact ih1 _ _ _ _ _ _ _
   | exact ih2 _ _ _ _ _ _ _ _
   | exact ih3 _ _ _ _ _ _ _ _
   | exact ih4 _ _ _ _ _ _ _ _
   | exact ih5 _ _ _ _ _ _ _ _
   | exact ih6 _ _ _ _ _ _ _ _
   | exact ih7 _ _ _ _ _ _ _
   | exact ih8 _ _ _ _ _
   | exact ih9 _ _ _ _ _
   | exact ih10 _ _ _
   | exact LeO.none _
   | refine LeO.ite ?_ ?_
   | refine LeO.bind ?_ (fun _ => ?_)
  ·intro y0 y1 y2 y3 y4 y5 y6 y7
   unfold diffmatchpatch_diffCleanupSemanticScore.j5
   repeat' first
   | (with_reducible exact ih0 _ _ _)
   | (with_reducible exact ih1 _ _ _ _ _ _ _)
   | (with_reducible exact ih2 _ _ _ _ _ _ _ _)
   | (with_reducible exact ih3 _ _ _ _ _ _ _ _)
   | (with_reducible exact ih4 _ _ _ _ _ _ _ _)
   | (with_reducible exact ih5 _ _ _ _ _ _ _ _)
   | (with_reducible exact ih6 _ _ _ _ _ _ _ _)
   | (with_reducible exact ih7 _ _ _ _ _ _ _)
   | (with_reducible exact ih8 _ _ _ _ _)
   | (with_reducible exact ih9 _ _ _ _ _)
   | (with_reducible exact ih10 _ _ _)
   | (with_reducible exact LeO.refl _)
   | (with_reducible exact LeO.none _)
   | (with_reducible refine LeO.ite ?_ ?_)
   | (with_reducible refine LeO.bind ?_ (fun _ => ?_))
   | exact ih0 _ _ _
   | exact ih1 _ _ _ _ _ _ _
   | exact ih2 _ _ _ _ _ _ _ _
   | exact ih3 _ _ _ _ _ _ _ _
   | exact ih4 _ _ _ _ _ _ _ _
   | exact ih5 _ _ _ _ _ _ _ _
   | exact ih6 _ _ _ _ _ _ _ _
   | exact ih7 _ _ _ _ _ _ _
   | exact ih8 _ _ _ _ _
   | exact ih9 _ _ _ _ _
   | exact ih10 _ _ _
   | exact LeO.none _
   | refine LeO.ite ?_ ?_
   | refine LeO.bind ?_ (fun _ => ?_)
  ·intro y0 y1 y2 y3 y4 y5 y6 y7
   unfold diffmatchpatch_diffCleanupSemanticScore.j6
   repeat' first
   | (with_reducible exact ih0 _ _ _)
   | (with_reducible exact ih1 _ _ _ _ _ _ _)
   | (with_reducible exact ih2 _ _ _ _ _ _ _ _)
   | (with_reducible exact ih3 _ _ _ _ _ _ _ _)
   | (with_reducible exact ih4 _ _ _ _ _ _ _ _)
   | (with_reducible exact ih5 _ _ _ _ _ _ _ _)
   | (with_reducible exact ih6 _ _ _ _ _ _ _ _)
   | (with_reducible exact ih7 _ _ _ _ _ _ _)
   | (with_reducible exact ih8 _ _ _ _ _)
   | (with_reducible exact ih9 _ _ _ _ _)
   | (with_reducible exact ih10 _ _ _)
   | (with_reducible exact LeO.refl _)
   | (with_reducible exact LeO.none _)
   | (with_reducible refine LeO.ite ?_ ?_)
   | (with_reducible refine LeO.bind ?_ (fun _ => ?_))
   | exact ih0 _ _ _
   | exact ih1 _ _ _ _ _ _ _
   | exact ih2 _ _ _ _ _ _ _ _
   | exact ih3 _ _ _ _ _ _ _ _
   | exact ih4 _ _ _ _ _ _ _ _
   | exact ih5 _ _ _ _ _ _ _ _
   | exact ih6 _ _ _ _ _ _ _ _
   | exact ih7 _ _ _ _ _ _ _
   | exact ih8 _ _ _ _ _
   | exact ih9 _ _ _ _ _
   | exact ih10 _ _ _
   | exact LeO.none _
   | refine LeO.ite ?_ ?_
   | refine LeO.bind ?_ (fun _ => ?_)
  ·intro y0 y1 y2 y3 y4 y5 y6
   unfold diffmatchpatch_diffCleanupSemanticScore.j7
   repeat' first
   | (with_reducible exact ih0 _ _ _)
   | (with_reducible exact ih1 _ _ _ _ _ _ _)
   | (with_reducible exact ih2 _ _ _ _ _ _ _ _)
   | (with_reducible exact ih3 _ _ _ _ _ _ _ _)
   | (with_reducible exact ih4 _ _ _ _ _ _ _ _)
   | (with_reducible exact ih5 _ _ _ _ _ _ _ _)
   | (with_reducible exact ih6 _ _ _ _ _ _ _ _)
   | (with_reducible exact ih7 _ _ _ _ _ _ _)
   | (with_reducible exact ih8 _ _ _ _ _)
   | (with_reducible exact ih9 _ _ _ _ _)
   | (with_reducible exact ih10 _ _ _)
   | (with_reducible exact LeO.refl _)
   | (with_reducible exact LeO.none _)
   | (with_reducible refine LeO.ite ?_ ?_)
   | (with_reducible refine LeO.bind ?_ (fun _ => ?_))
   | exact ih0 _ _ _
   | exact ih1 _ _ _ _ _ _ _
   | exact ih2 _ _ _ _ _ _ _ _
   | exact ih3 _ _ _ _ _ _ _ _
   | exact ih4 _ _ _ _ _ _ _ _
   | exact ih5 _ _ _ _ _ _ _ _
   | exact ih6 _ _ _ _ _ _ _ _
   | exact ih7 _ _ _ _ _ _ _
   | exact ih8 _ _ _ _ _
   | exact ih9 _ _ _ _ _
   | exact ih10 _ _ _
   | exact LeO.none _
   | refine LeO.ite ?_ ?_
   | refine LeO.bind ?_ (fun _ => ?_)
  ·intro y0 y1 y2 y3 y4
   unfold diffmatchpatch_diffCleanupSemanticScore.j8
   repeat' first
   | (with_reducible exact ih0 _ _ _)
   | (with_reducible exact ih1 _ _ _ _ _ _ _)
   | (with_reducible exact ih2 _ _ _ _ _ _ _ _)
   | (with_reducible exact ih3 _ _ _ _ _ _ _ _)
   | (with_reducible exact ih4 _ _ _ _ _ _ _ _)
   | (with_reducible exact ih5 _ _ _ _ _ _ _ _)
   | (with_reducible exact ih6 _ _ _ _ _ _ _ _)
   | (with_reducible exact ih7 _ _ _ _ _ _ _)
   | (with_reducible exact ih8 _ _ _ _ _)
   | (with_reducible exact ih9 _ _ _ _ _)
   | (with_reducible exact ih10 _ _ _)
   | (with_reducible exact LeO.refl _)
   | (with_reducible exact LeO.none _)
   | (with_reducible refine LeO.ite ?_ ?_)
   | (with_reducible refine LeO.bind ?_ (fun _ => ?_))
   | exact ih0 _ _ _
   | exact ih1 _ _ _ _ _ _ _
   | exact ih2 _ _ _ _ _ _ _ _
   | exact ih3 _ _ _ _ _ _ _ _
   | exact ih4 _ _ _ _ _ _ _ _
   | exact ih5 _ _ _ _ _ _ _ _
   | exact ih6 _ _ _ _ _ _ _ _
   | exact ih7 _ _ _ _ _ _ _
   | exact ih8 _ _ _ _ _
   | exact ih9 _ _ _ _ _
   | exact ih10 _ _ _
   | exact LeO.none _
   | refine LeO.ite ?_ ?_
   | refine LeO.bind ?_ (fun _ => ?_)
  ·intro y0 y1 y2 y3 y4
   unfold diffmatchpatch_diffCleanupSemanticScore.j9
   repeat' first
   | (with_reducible exact ih0 _ _ _)
   | (with_reducible exact ih1 _ _ _ _ _ _ _)
   | (with_reducible exact ih2 _ _ _ _ _ _ _ _)
   | (with_reducible exact ih3 _ _ _ _ _ _ _ _)
   | (with_reducible exact ih4 _ _ _ _ _ _ _ _)
   | (with_reducible exact ih5 _ _ _ _ _ _ _ _)
   | (with_reducible exact ih6 _ _ _ _ _ _ _ _)
   | (with_reducible exact ih7 _ _ _ _ _ _ _)
   | (with_reducible exact ih8 _ _ _ _ _)
   | (with_reducible exact ih9 _ _ _ _ _)
   | (with_reducible exact ih10 _ _ _)
   | (with_reducible exact LeO.refl _)
   | (with_reducible exact LeO.none _)
   | (with_reducible refine LeO.ite ?_ ?_)
   | (with_reducible refine LeO.bind ?_ (fun _ => ?_))
   | exact ih0 _ _ _
   | exact ih1 _ _ _ _ _ _ _
   | exact ih2 _ _ _ _ _ _ _ _
   | exact ih3 _ _ _ _ _ _ _ _
   | exact ih4 _ _ _ _ _ _ _ _
   | exact ih5 _ _ _ _ _ _ _ _
   | exact ih6 _ _ _ _ _ _ _ _
   | exact ih7 _ _ _ _ _ _ _
   | exact ih8 _ _ _ _ _
   | exact ih9 _ _ _ _ _
   | exact ih10 _ _ _
   | exact LeO.none _
   | refine LeO.ite ?_ ?_
   | refine LeO.bind ?_ (fun _ => ?_)
  ·intro y0 y1 y2
   unfold diffmatchpatch_diffCleanupSemanticScore.j10
   repeat' first
   | (with_reducible exact ih0 _ _ _)
   | (with_reducible exact ih1 _ _ _ _ _ _ _)
   | (with_reducible exact ih2 _ _ _ _ _ _ _ _)
   | (with_reducible exact ih3 _ _ _ _ _ _ _ _)
   | (with_reducible exact ih4 _ _ _ _ _ _ _ _)
   | (with_reducible exact ih5 _ _ _ _ _ _ _ _)
   | (with_reducible exact ih6 _ _ _ _ _ _ _ _)
   | (with_reducible exact ih7 _ _ _ _ _ _ _)
   | (with_reducible exact ih8 _ _ _ _ _)
   | (with_reducible exact ih9 _ _ _ _ _)
   | (with_reducible exact ih10 _ _ _)
   | (with_reducible exact LeO.refl _)
   | (with_reducible exact LeO.none _)
   | (with_reducible refine LeO.ite ?_ ?_)
   | (with_reducible refine LeO.bind ?_ (fun _ => ?_))
   | exact ih0 _ _ _
   | exact ih1 _ _ _ _ _ _ _
   | exact ih2 _ _ _ _ _ _ _ _
   | exact ih3 _ _ _ _ _ _ _ _
   | exact ih4 _ _ _ _ _ _ _ _
   | exact ih5 _ _ _ _ _ _ _ _
   | exact ih6 _ _ _ _ _ _ _ _
   | exact ih7 _ _ _ _ _ _ _
   | exact ih8 _ _ _ _ _
   | exact ih9 _ _ _ _ _
   | exact ih10 _ _ _
   | exact LeO.none _
   | refine LeO.ite ?_ ?_
   | refine LeO.bind ?_ (fun _ => ?_)
theorem diffmatchpatch_diffCleanupSemanticScore.mono : ∀ a0 a1 k, LeO (diffmatchpatch_diffCleanupSemanticScore.f k a0 a1) (diffmatchpatch_diffCleanupSemanticScore.f (k + 1) a0 a1) := by
 intro a0 a1 k
 obtain ⟨ih0, ih1, ih2, ih3, ih4, ih5, ih6, ih7, ih8, ih9, ih10⟩ := diffmatchpatch_diffCleanupSemanticScore.mono_l k
 unfold diffmatchpatch_diffCleanupSemanticScore.f
 repeat' first
   | (with_reducible exact ih0 _ _ _)
   | (with_reducible exact ih1 _ _ _ _ _ _ _)
   | (with_reducible exact ih2 _ _ _ _ _ _ _ _)
   | (with_reducible exact ih3 _ _ _ _ _ _ _ _)
   | (with_reducible exact ih4 _ _ _ _ _ _ _ _)
   | (with_reducible exact ih5 _ _ _ _ _ _ _ _)
   | (with_reducible exact ih6 _ _ _ _ _ _ _ _)
   | (with_reducible exact ih7 _ _ _ _ _ _ _)
   | (with_reducible exact ih8 _ _ _ _ _)
   | (with_reducible exact ih9 _ _ _ _ _)
   | (with_reducible exact ih10 _ _ _)
   | (with_reducible exact LeO.refl _)
   | (with_reducible exact LeO.none _)
   | (with_reducible refine LeO.ite ?_ ?_)
   | (with_reducible refine LeO.bind ?_ (fun _ => ?_))
   | exact ih0 _ _ _
   | exact ih1 _ _ _ _ _ _ _
   | exact ih2 _ _ _ _ _ _ _ _
   | exact ih3 _ _ _ _ _ _ _ _
   | exact ih4 _ _ _ _ _ _ _ _
   | exact ih5 _ _ _ _ _ _ _ _
   | exact ih6 _ _ _ _ _ _ _ _
   | exact ih7 _ _ _ _ _ _ _
   | exact ih8 _ _ _ _ _
   | exact ih9 _ _ _ _ _
   | exact ih10 _ _ _
   | exact LeO.none _
   | refine LeO.ite ?_ ?_
   | refine LeO.bind ?_ (fun _ => ?_)
set_option maxHeartbeats 8000000 in
set_option maxRecDepth 100000 in
theorem diffmatchpatch_diffCleanupSemanticScore.calls (k : Nat) (a0 : ByteArray) (a1 : ByteArray) (r : Int) (w : World) (hG_ : Glob w) (h : diffmatchpatch_diffCleanupSemanticScore.f k a0 a1 = some r) :
  Calls Tryd.prog 47 #[.string a0, .string a1] w fun e w' => e = .returned (.int .i64 r) ∧ Below w.heap.size w w' := by
 have HB := Aside0.mk (Below.refl w.heap.size w)
 have H : (if (a0.size : Int) = 0 then (diffmatchpatch_diffCleanupSemanticScore.j0 k a0 a1 true) else (diffmatchpatch_diffCleanupSemanticScore.j0 k a0 a1 ((a1.size : Int) == 0))) = some r := h
 clear h
 have HC3 := Aside0.mk H
 clear H
 go_enter Tryd.func47, Tryd.ntmps47
 go_upto_region 1 with (fail)
 go_cut [24] (fun v24 wc => ∃ (kq : Nat) (x24_2 : Bool), v24 = .bool x24_2 ∧ Aside0 (diffmatchpatch_diffCleanupSemanticScore.j0 kq a0 a1 x24_2 = some r) ∧ Aside0 (kq ≤ k) ∧ Aside0 (Below w.heap.size w wc))
 case first =>
  have H := HC3.out
  clear HC3
  by_cases c4 : (a0.size : Int) = 0
  ·rw [if_pos c4] at H
   have c4b0 : ((a0.size : Int) == 0) = true := beq_iff_eq.mpr c4
   have c4b1 : ((a0.size : Int) != 0) = false := bne_eq_false_iff_eq.mpr c4
   clear c4
   (first | rw [c4b0] | (simp only [i64_w, i32_w]; rw [c4b0]) | rw [c4b1] | skip)
   have H' := Aside0.mk H
   clear H
   go_wp2
   go_meet
   case rel => exact ⟨_, (true), (by first | rfl | (simp; done) | (simp [*]; done)), H', ⟨by first | omega | exact Nat.le_refl _⟩, ⟨by repeat (first | (with_reducible first | exact HB.out | apply below_alloc | apply pw_below_drewN | apply below_drew1) | exact HB.out)⟩⟩
  rw [if_neg c4] at H
  have c4b0 : ((a0.size : Int) == 0) = false := beq_eq_false_iff_ne.mpr c4
  have c4b1 : ((a0.size : Int) != 0) = true := bne_iff_ne.mpr c4
  (first | rw [c4b0] | (simp only [i64_w, i32_w]; rw [c4b0]) | rw [c4b1] | skip)
  have H' := Aside0.mk H
  clear H
  go_wp2
  go_meet
  case rel => exact ⟨_, (((a1.size : Int) == 0)), (by first | rfl | (simp; done) | (simp [*]; done)), H', ⟨by first | omega | exact Nat.le_refl _⟩, ⟨by repeat (first | (with_reducible first | exact HB.out | apply below_alloc | apply pw_below_drewN | apply below_drew1) | exact HB.out)⟩⟩
 case rest =>
  clear HC3
  try clear p2
  try clear c4
  try clear c4b0
  try clear c4b1
  obtain ⟨kq, x24_2, rfl, HA, HJ2, HB⟩ := hcut
  cases kq with
  | zero => exact absurd HA.out (by simp [diffmatchpatch_diffCleanupSemanticScore.j0])
  | succ kj2 =>
   have H := HA.out
   clear HA
   simp only [diffmatchpatch_diffCleanupSemanticScore.j0] at H
   by_cases c5 : x24_2 = true
   ·subst c5
    have H1 : (some 6) = some r := by rw [if_pos rfl] at H; exact H
    clear H
    have H := H1
    clear H1
    obtain rfl := Option.some.inj H
    go_wp2
    go_ret
    exact ⟨by first | rfl | (simp [errW_none, errW_some] <;> rfl) | (simp [*, errW_none, errW_some] <;> rfl), by repeat (first | (with_reducible first | exact HB.out | apply below_alloc | apply pw_below_drewN | apply below_drew1) | exact HB.out)⟩
   as_aux_lemma =>
    replace c5 := Bool.eq_false_iff.mpr c5
    subst c5
    have H1 : ((utf8_DecodeLastRuneInString.f a0).bind fun bt134 => ((utf8_DecodeRuneInString.f a1).bind fun bt136 => ((diffmatchpatch_zzNotAlnum.f bt134.1).bind fun t138 => ((diffmatchpatch_zzNotAlnum.f bt136.1).bind fun t139 => (if t138 = true then ((diffmatchpatch_zzWhite.f bt134.1).bind fun t140 => (diffmatchpatch_diffCleanupSemanticScore.j1 kj2 a0 a1 bt134.1 bt136.1 t138 t139 t140)) else (diffmatchpatch_diffCleanupSemanticScore.j1 kj2 a0 a1 bt134.1 bt136.1 t138 t139 false)))))) = some r := by rw [if_neg (show ¬ (false = true) by decide)] at H; exact H
    clear H
    have H := H1
    clear H1
    replace H := Option.bind_eq_some_iff.mp H
    obtain ⟨⟨t134, t135⟩, A60, H⟩ := H
    replace H : ((utf8_DecodeRuneInString.f a1).bind fun bt136 => ((diffmatchpatch_zzNotAlnum.f t134).bind fun t138 => ((diffmatchpatch_zzNotAlnum.f bt136.1).bind fun t139 => (if t138 = true then ((diffmatchpatch_zzWhite.f t134).bind fun t140 => (diffmatchpatch_diffCleanupSemanticScore.j1 kj2 a0 a1 t134 bt136.1 t138 t139 t140)) else (diffmatchpatch_diffCleanupSemanticScore.j1 kj2 a0 a1 t134 bt136.1 t138 t139 false))))) = some r := H
    have A6 := Aside0.mk A60
    clear A60
    replace H := Option.bind_eq_some_iff.mp H
    obtain ⟨⟨t136, t137⟩, A70, H⟩ := H
    replace H : ((diffmatchpatch_zzNotAlnum.f t134).bind fun t138 => ((diffmatchpatch_zzNotAlnum.f t136).bind fun t139 => (if t138 = true then ((diffmatchpatch_zzWhite.f t134).bind fun t140 => (diffmatchpatch_diffCleanupSemanticScore.j1 kj2 a0 a1 t134 t136 t138 t139 t140)) else (diffmatchpatch_diffCleanupSemanticScore.j1 kj2 a0 a1 t134 t136 t138 t139 false)))) = some r := H
    have A7 := Aside0.mk A70
    clear A70
    replace H := Option.bind_eq_some_iff.mp H
    obtain ⟨t138, A80, H⟩ := H
    replace H : ((diffmatchpatch_zzNotAlnum.f t136).bind fun t139 => (if t138 = true then ((diffmatchpatch_zzWhite.f t134).bind fun t140 => (diffmatchpatch_diffCleanupSemanticScore.j1 kj2 a0 a1 t134 t136 t138 t139 t140)) else (diffmatchpatch_diffCleanupSemanticScore.j1 kj2 a0 a1 t134 t136 t138 t139 false))) = some r := H
    have A8 := Aside0.mk A80
    clear A80
    replace H := Option.bind_eq_some_iff.mp H
    obtain ⟨t139, A90, H⟩ := H
    replace H : (if t138 = true then ((diffmatchpatch_zzWhite.f t134).bind fun t140 => (diffmatchpatch_diffCleanupSemanticScore.j1 kj2 a0 a1 t134 t136 t138 t139 t140)) else (diffmatchpatch_diffCleanupSemanticScore.j1 kj2 a0 a1 t134 t136 t138 t139 false)) = some r := H
    have A9 := Aside0.mk A90
    clear A90
    have HC10 := Aside0.mk H
    clear H
    go_upto_region 7 with (first | ((with_reducible refine gate_callee (f := 57) rfl ?_); refine goesL_ (some 27) rfl rfl Tryd.func57 (by kernel_rfl) rfl #[.string a0] rfl (by (try simp only [List.map_toArray, List.map_cons, List.map_nil]); first | done | rfl | (simp only [List.length_drop, List.length_take]; rfl)) ?_; (with_reducible refine (utf8_DecodeLastRuneInString.calls a0 t134 t135 _ ?side1 A6.out).mono ?_); (case side1 => exact Glob.below hG_ (by repeat (first | (with_reducible first | exact HB.out | apply below_alloc | apply pw_below_drewN | apply below_drew1) | exact HB.out))); rintro e w11 ⟨rfl, hb⟩; refine ⟨_, rfl, ?_⟩; have n0_ := Aside0.mk (below_step (by repeat (first | (with_reducible first | exact HB.out | apply below_alloc | apply pw_below_drewN | apply below_drew1) | exact HB.out)) hb); clear HB; have HB := n0_; clear n0_; (try clear hb); (try clear hb2); (try clear hk); (try clear hi)) | ((with_reducible refine gate_callee (f := 48) rfl ?_); refine goesL_ (some 32) rfl rfl Tryd.func48 (by kernel_rfl) rfl #[.string a1] rfl (by (try simp only [List.map_toArray, List.map_cons, List.map_nil]); first | done | rfl | (simp only [List.length_drop, List.length_take]; rfl)) ?_; (with_reducible refine (utf8_DecodeRuneInString.calls a1 t136 t137 _ ?side1 A7.out).mono ?_); (case side1 => exact Glob.below hG_ (by repeat (first | (with_reducible first | exact HB.out | apply below_alloc | apply pw_below_drewN | apply below_drew1) | exact HB.out))); rintro e w12 ⟨rfl, hb⟩; refine ⟨_, rfl, ?_⟩; have n0_ := Aside0.mk (below_step (by repeat (first | (with_reducible first | exact HB.out | apply below_alloc | apply pw_below_drewN | apply below_drew1) | exact HB.out)) hb); clear HB; have HB := n0_; clear n0_; (try clear hb); (try clear hb2); (try clear hk); (try clear hi)) | ((with_reducible refine gate_callee (f := 58) rfl ?_); refine goesL_ (some 36) rfl rfl Tryd.func58 (by kernel_rfl) rfl #[.int .i32 t134] rfl (by (try simp only [List.map_toArray, List.map_cons, List.map_nil]); first | done | rfl | (simp only [List.length_drop, List.length_take]; rfl)) ?_; (with_reducible refine (diffmatchpatch_zzNotAlnum.calls t134 t138 _ A8.out).mono ?_); rintro e w' ⟨rfl, ⟨nd, rfl⟩⟩; refine ⟨_, rfl, ?_⟩) | ((with_reducible refine gate_callee (f := 58) rfl ?_); refine goesL_ (some 38) rfl rfl Tryd.func58 (by kernel_rfl) rfl #[.int .i32 t136] rfl (by (try simp only [List.map_toArray, List.map_cons, List.map_nil]); first | done | rfl | (simp only [List.length_drop, List.length_take]; rfl)) ?_; (with_reducible refine (diffmatchpatch_zzNotAlnum.calls t136 t139 _ A9.out).mono ?_); rintro e w' ⟨rfl, ⟨nd, rfl⟩⟩; refine ⟨_, rfl, ?_⟩))
    (try simp only [Act.put, List.setIfInBounds_toArray, List.set_cons_zero, List.set_cons_succ])
    go_cut [11] (fun v11 wc => ∃ (kq : Nat) (x11_9 : Bool), v11 = .bool x11_9 ∧ Aside0 (diffmatchpatch_diffCleanupSemanticScore.j1 kq a0 a1 t134 t136 t138 t139 x11_9 = some r) ∧ Aside0 (kq ≤ kj2) ∧ Aside0 (Below w.heap.size w wc))
    case first =>
     have H := HC10.out
     clear HC10
     by_cases c13 : t138 = true
     case neg =>
      replace c13 := Bool.eq_false_iff.mpr c13
      subst c13
      have H1 : (diffmatchpatch_diffCleanupSemanticScore.j1 kj2 a0 a1 t134 t136 false t139 false) = some r := by rw [if_neg (show ¬ (false = true) by decide)] at H; exact H
      clear H
      have H := H1
      clear H1
      have H' := Aside0.mk H
      clear H
      go_wp2
      go_meet
      case rel => exact ⟨_, (false), (by first | rfl | (simp; done) | (simp [*]; done)), H', ⟨by have := HJ2.out; first | omega | exact Nat.le_refl _⟩, ⟨by repeat (first | (with_reducible first | exact HB.out | apply below_alloc | apply pw_below_drewN | apply below_drew1) | exact HB.out)⟩⟩
     subst c13
     have H1 : ((diffmatchpatch_zzWhite.f t134).bind fun t140 => (diffmatchpatch_diffCleanupSemanticScore.j1 kj2 a0 a1 t134 t136 true t139 t140)) = some r := by rw [if_pos rfl] at H; exact H
     clear H
     have H := H1
     clear H1
     replace H := Option.bind_eq_some_iff.mp H
     obtain ⟨t140, A140, H⟩ := H
     replace H : (diffmatchpatch_diffCleanupSemanticScore.j1 kj2 a0 a1 t134 t136 true t139 t140) = some r := H
     have A14 := Aside0.mk A140
     clear A140
     have H' := Aside0.mk H
     clear H
     go_wp2_with (first | (go_at_call 59; (with_reducible refine (diffmatchpatch_zzWhite.calls t134 t140 _ A14.out).mono ?_); rintro e w' ⟨rfl, ⟨nd, rfl⟩⟩))
     go_meet
     case rel => exact ⟨_, (t140), (by first | rfl | (simp; done) | (simp [*]; done)), H', ⟨by have := HJ2.out; first | omega | exact Nat.le_refl _⟩, ⟨by repeat (first | (with_reducible first | exact HB.out | apply below_alloc | apply pw_below_drewN | apply below_drew1) | exact HB.out)⟩⟩
    case rest =>
     clear HC10
     try clear c1
     try clear p2
     try clear c4
     try clear c4b0
     try clear c4b1
     try clear c5
     try clear c13
     try clear p2
     obtain ⟨kq, x11_9, rfl, HA, HJ9, HB⟩ := hcut
     cases kq with
     | zero => exact absurd HA.out (by simp [diffmatchpatch_diffCleanupSemanticScore.j1])
     | succ kj9 =>
      have H := HA.out
      clear HA
      simp only [diffmatchpatch_diffCleanupSemanticScore.j1] at H
      have HC15 := Aside0.mk H
      clear H
      go_upto_region 8 with (fail)
      go_cut [12] (fun v12 wc => ∃ (kq : Nat) (x12_14 : Bool), v12 = .bool x12_14 ∧ Aside0 (diffmatchpatch_diffCleanupSemanticScore.j2 kq a0 a1 t134 t136 t138 t139 x11_9 x12_14 = some r) ∧ Aside0 (kq ≤ kj9) ∧ Aside0 (Below w.heap.size w wc))
      case first =>
       have H := HC15.out
       clear HC15
       by_cases c16 : t139 = true
       case neg =>
        replace c16 := Bool.eq_false_iff.mpr c16
        subst c16
        have H1 : (diffmatchpatch_diffCleanupSemanticScore.j2 kj9 a0 a1 t134 t136 t138 false x11_9 false) = some r := by rw [if_neg (show ¬ (false = true) by decide)] at H; exact H
        clear H
        have H := H1
        clear H1
        have H' := Aside0.mk H
        clear H
        go_wp2
        go_meet
        case rel => exact ⟨_, (false), (by first | rfl | (simp; done) | (simp [*]; done)), H', ⟨by have := HJ2.out; have := HJ9.out; first | omega | exact Nat.le_refl _⟩, ⟨by repeat (first | (with_reducible first | exact HB.out | apply below_alloc | apply pw_below_drewN | apply below_drew1) | exact HB.out)⟩⟩
       subst c16
       have H1 : ((diffmatchpatch_zzWhite.f t136).bind fun t141 => (diffmatchpatch_diffCleanupSemanticScore.j2 kj9 a0 a1 t134 t136 t138 true x11_9 t141)) = some r := by rw [if_pos rfl] at H; exact H
       clear H
       have H := H1
       clear H1
       replace H := Option.bind_eq_some_iff.mp H
       obtain ⟨t141, A170, H⟩ := H
       replace H : (diffmatchpatch_diffCleanupSemanticScore.j2 kj9 a0 a1 t134 t136 t138 true x11_9 t141) = some r := H
       have A17 := Aside0.mk A170
       clear A170
       have H' := Aside0.mk H
       clear H
       go_wp2_with (first | (go_at_call 59; (with_reducible refine (diffmatchpatch_zzWhite.calls t136 t141 _ A17.out).mono ?_); rintro e w' ⟨rfl, ⟨nd, rfl⟩⟩))
       go_meet
       case rel => exact ⟨_, (t141), (by first | rfl | (simp; done) | (simp [*]; done)), H', ⟨by have := HJ2.out; have := HJ9.out; first | omega | exact Nat.le_refl _⟩, ⟨by repeat (first | (with_reducible first | exact HB.out | apply below_alloc | apply pw_below_drewN | apply below_drew1) | exact HB.out)⟩⟩
      case rest =>
       clear HC15
       try clear c1
       try clear p2
       try clear c4
       try clear c4b0
       try clear c4b1
       try clear c5
       try clear c13
       try clear c16
       try clear p2
       obtain ⟨kq, x12_14, rfl, HA, HJ14, HB⟩ := hcut
       cases kq with
       | zero => exact absurd HA.out (by simp [diffmatchpatch_diffCleanupSemanticScore.j2])
       | succ kj14 =>
        have H := HA.out
        clear HA
        simp only [diffmatchpatch_diffCleanupSemanticScore.j2] at H
        have HC18 := Aside0.mk H
        clear H
        go_upto_region 9 with (fail)
        go_cut [13] (fun v13 wc => ∃ (kq : Nat) (x13_17 : Bool), v13 = .bool x13_17 ∧ Aside0 (diffmatchpatch_diffCleanupSemanticScore.j3 kq a0 a1 t136 t138 t139 x11_9 x12_14 x13_17 = some r) ∧ Aside0 (kq ≤ kj14) ∧ Aside0 (Below w.heap.size w wc))
        case first =>
         have H := HC18.out
         clear HC18
         by_cases c19 : x11_9 = true
         case neg =>
          replace c19 := Bool.eq_false_iff.mpr c19
          subst c19
          have H1 : (diffmatchpatch_diffCleanupSemanticScore.j3 kj14 a0 a1 t136 t138 t139 false x12_14 false) = some r := by rw [if_neg (show ¬ (false = true) by decide)] at H; exact H
          clear H
          have H := H1
          clear H1
          have H' := Aside0.mk H
          clear H
          go_wp2
          go_meet
          case rel => exact ⟨_, (false), (by first | rfl | (simp; done) | (simp [*]; done)), H', ⟨by have := HJ2.out; have := HJ9.out; have := HJ14.out; first | omega | exact Nat.le_refl _⟩, ⟨by repeat (first | (with_reducible first | exact HB.out | apply below_alloc | apply pw_below_drewN | apply below_drew1) | exact HB.out)⟩⟩
         subst c19
         have H1 : ((diffmatchpatch_zzBreak.f t134).bind fun t142 => (diffmatchpatch_diffCleanupSemanticScore.j3 kj14 a0 a1 t136 t138 t139 true x12_14 t142)) = some r := by rw [if_pos rfl] at H; exact H
         clear H
         have H := H1
         clear H1
         replace H := Option.bind_eq_some_iff.mp H
         obtain ⟨t142, A200, H⟩ := H
         replace H : (diffmatchpatch_diffCleanupSemanticScore.j3 kj14 a0 a1 t136 t138 t139 true x12_14 t142) = some r := H
         have A20 := Aside0.mk A200
         clear A200
         have H' := Aside0.mk H
         clear H
         go_wp2_with (first | (go_at_call 60; (with_reducible refine (diffmatchpatch_zzBreak.calls t134 t142 _ A20.out).mono ?_); rintro e w' ⟨rfl, ⟨nd, rfl⟩⟩))
         go_meet
         case rel => exact ⟨_, (t142), (by first | rfl | (simp; done) | (simp [*]; done)), H', ⟨by have := HJ2.out; have := HJ9.out; have := HJ14.out; first | omega | exact Nat.le_refl _⟩, ⟨by repeat (first | (with_reducible first | exact HB.out | apply below_alloc | apply pw_below_drewN | apply below_drew1) | exact HB.out)⟩⟩
        case rest =>
         clear HC18
         try clear c1
         try clear p2
         try clear c4
         try clear c4b0
         try clear c4b1
         try clear c5
         try clear c13
         try clear c16
         try clear c19
         try clear p2
         obtain ⟨kq, x13_17, rfl, HA, HJ17, HB⟩ := hcut
         cases kq with
         | zero => exact absurd HA.out (by simp [diffmatchpatch_diffCleanupSemanticScore.j3])
         | succ kj17 =>
          have H := HA.out
          clear HA
          simp only [diffmatchpatch_diffCleanupSemanticScore.j3] at H
          have HC21 := Aside0.mk H
          clear H
          go_upto_region 10 with (fail)
          go_cut [14] (fun v14 wc => ∃ (kq : Nat) (x14_20 : Bool), v14 = .bool x14_20 ∧ Aside0 (diffmatchpatch_diffCleanupSemanticScore.j4 kq a0 a1 t138 t139 x11_9 x12_14 x13_17 x14_20 = some r) ∧ Aside0 (kq ≤ kj17) ∧ Aside0 (Below w.heap.size w wc))
          case first =>
           have H := HC21.out
           clear HC21
           by_cases c22 : x12_14 = true
           case neg =>
            replace c22 := Bool.eq_false_iff.mpr c22
            subst c22
            have H1 : (diffmatchpatch_diffCleanupSemanticScore.j4 kj17 a0 a1 t138 t139 x11_9 false x13_17 false) = some r := by rw [if_neg (show ¬ (false = true) by decide)] at H; exact H
            clear H
            have H := H1
            clear H1
            have H' := Aside0.mk H
            clear H
            go_wp2
            go_meet
            case rel => exact ⟨_, (false), (by first | rfl | (simp; done) | (simp [*]; done)), H', ⟨by have := HJ2.out; have := HJ9.out; have := HJ14.out; have := HJ17.out; first | omega | exact Nat.le_refl _⟩, ⟨by repeat (first | (with_reducible first | exact HB.out | apply below_alloc | apply pw_below_drewN | apply below_drew1) | exact HB.out)⟩⟩
           subst c22
           have H1 : ((diffmatchpatch_zzBreak.f t136).bind fun t143 => (diffmatchpatch_diffCleanupSemanticScore.j4 kj17 a0 a1 t138 t139 x11_9 true x13_17 t143)) = some r := by rw [if_pos rfl] at H; exact H
           clear H
           have H := H1
           clear H1
           replace H := Option.bind_eq_some_iff.mp H
           obtain ⟨t143, A230, H⟩ := H
           replace H : (diffmatchpatch_diffCleanupSemanticScore.j4 kj17 a0 a1 t138 t139 x11_9 true x13_17 t143) = some r := H
           have A23 := Aside0.mk A230
           clear A230
           have H' := Aside0.mk H
           clear H
           go_wp2_with (first | (go_at_call 60; (with_reducible refine (diffmatchpatch_zzBreak.calls t136 t143 _ A23.out).mono ?_); rintro e w' ⟨rfl, ⟨nd, rfl⟩⟩))
           go_meet
           case rel => exact ⟨_, (t143), (by first | rfl | (simp; done) | (simp [*]; done)), H', ⟨by have := HJ2.out; have := HJ9.out; have := HJ14.out; have := HJ17.out; first | omega | exact Nat.le_refl _⟩, ⟨by repeat (first | (with_reducible first | exact HB.out | apply below_alloc | apply pw_below_drewN | apply below_drew1) | exact HB.out)⟩⟩
          case rest =>
           clear HC21
           try clear c1
           try clear c2
           try clear p2
           try clear c4
           try clear c4b0
           try clear c4b1
           try clear c5
           try clear c13
           try clear c16
           try clear c19
           try clear c22
           try clear p2
           obtain ⟨kq, x14_20, rfl, HA, HJ20, HB⟩ := hcut
           cases kq with
           | zero => exact absurd HA.out (by simp [diffmatchpatch_diffCleanupSemanticScore.j4])
           | succ kj20 =>
            have H := HA.out
            clear HA
            simp only [diffmatchpatch_diffCleanupSemanticScore.j4] at H
            have HC24 := Aside0.mk H
            clear H
            go_upto_region 11 with (fail)
            go_cut [15] (fun v15 wc => ∃ (kq : Nat) (x15_23 : Bool), v15 = .bool x15_23 ∧ Aside0 (diffmatchpatch_diffCleanupSemanticScore.j5 kq a1 t138 t139 x11_9 x12_14 x13_17 x14_20 x15_23 = some r) ∧ Aside0 (kq ≤ kj20) ∧ Aside0 (Below w.heap.size w wc))
            case first =>
             have H := HC24.out
             clear HC24
             by_cases c25 : x13_17 = true
             case neg =>
              replace c25 := Bool.eq_false_iff.mpr c25
              subst c25
              have H1 : (diffmatchpatch_diffCleanupSemanticScore.j5 kj20 a1 t138 t139 x11_9 x12_14 false x14_20 false) = some r := by rw [if_neg (show ¬ (false = true) by decide)] at H; exact H
              clear H
              have H := H1
              clear H1
              have H' := Aside0.mk H
              clear H
              go_wp2
              go_meet
              case rel => exact ⟨_, (false), (by first | rfl | (simp; done) | (simp [*]; done)), H', ⟨by have := HJ2.out; have := HJ9.out; have := HJ14.out; have := HJ17.out; have := HJ20.out; first | omega | exact Nat.le_refl _⟩, ⟨by repeat (first | (with_reducible first | exact HB.out | apply below_alloc | apply pw_below_drewN | apply below_drew1) | exact HB.out)⟩⟩
             subst c25
             have H1 : ((diffmatchpatch_zzBlankEnd.f a0).bind fun t144 => (diffmatchpatch_diffCleanupSemanticScore.j5 kj20 a1 t138 t139 x11_9 x12_14 true x14_20 t144)) = some r := by rw [if_pos rfl] at H; exact H
             clear H
             have H := H1
             clear H1
             replace H := Option.bind_eq_some_iff.mp H
             obtain ⟨t144, A260, H⟩ := H
             replace H : (diffmatchpatch_diffCleanupSemanticScore.j5 kj20 a1 t138 t139 x11_9 x12_14 true x14_20 t144) = some r := H
             have A26 := Aside0.mk A260
             clear A260
             have H' := Aside0.mk H
             clear H
             go_wp2_with (first | (go_at_call 61; (with_reducible refine (diffmatchpatch_zzBlankEnd.calls a0 t144 _ A26.out).mono ?_); rintro e w' ⟨rfl, ⟨nd, rfl⟩⟩))
             go_meet
             case rel => exact ⟨_, (t144), (by first | rfl | (simp; done) | (simp [*]; done)), H', ⟨by have := HJ2.out; have := HJ9.out; have := HJ14.out; have := HJ17.out; have := HJ20.out; first | omega | exact Nat.le_refl _⟩, ⟨by repeat (first | (with_reducible first | exact HB.out | apply below_alloc | apply pw_below_drewN | apply below_drew1) | exact HB.out)⟩⟩
            case rest =>
             clear HC24
             try clear c1
             try clear c2
             try clear p2
             try clear c4
             try clear c4b0
             try clear c4b1
             try clear c5
             try clear c13
             try clear c16
             try clear c19
             try clear c22
             try clear c25
             try clear p2
             obtain ⟨kq, x15_23, rfl, HA, HJ23, HB⟩ := hcut
             cases kq with
             | zero => exact absurd HA.out (by simp [diffmatchpatch_diffCleanupSemanticScore.j5])
             | succ kj23 =>
              have H := HA.out
              clear HA
              simp only [diffmatchpatch_diffCleanupSemanticScore.j5] at H
              have HC27 := Aside0.mk H
              clear H
              go_upto_region 12 with (fail)
              go_cut [16] (fun v16 wc => ∃ (kq : Nat) (x16_26 : Bool), v16 = .bool x16_26 ∧ Aside0 (diffmatchpatch_diffCleanupSemanticScore.j6 kq t138 t139 x11_9 x12_14 x13_17 x14_20 x15_23 x16_26 = some r) ∧ Aside0 (kq ≤ kj23) ∧ Aside0 (Below w.heap.size w wc))
              case first =>
               have H := HC27.out
               clear HC27
               by_cases c28 : x14_20 = true
               case neg =>
                replace c28 := Bool.eq_false_iff.mpr c28
                subst c28
                have H1 : (diffmatchpatch_diffCleanupSemanticScore.j6 kj23 t138 t139 x11_9 x12_14 x13_17 false x15_23 false) = some r := by rw [if_neg (show ¬ (false = true) by decide)] at H; exact H
                clear H
                have H := H1
                clear H1
                have H' := Aside0.mk H
                clear H
                go_wp2
                go_meet
                case rel => exact ⟨_, (false), (by first | rfl | (simp; done) | (simp [*]; done)), H', ⟨by have := HJ2.out; have := HJ9.out; have := HJ14.out; have := HJ17.out; have := HJ20.out; have := HJ23.out; first | omega | exact Nat.le_refl _⟩, ⟨by repeat (first | (with_reducible first | exact HB.out | apply below_alloc | apply pw_below_drewN | apply below_drew1) | exact HB.out)⟩⟩
               subst c28
               have H1 : ((diffmatchpatch_zzBlankEnd.f a1).bind fun t145 => (diffmatchpatch_diffCleanupSemanticScore.j6 kj23 t138 t139 x11_9 x12_14 x13_17 true x15_23 t145)) = some r := by rw [if_pos rfl] at H; exact H
               clear H
               have H := H1
               clear H1
               replace H := Option.bind_eq_some_iff.mp H
               obtain ⟨t145, A290, H⟩ := H
               replace H : (diffmatchpatch_diffCleanupSemanticScore.j6 kj23 t138 t139 x11_9 x12_14 x13_17 true x15_23 t145) = some r := H
               have A29 := Aside0.mk A290
               clear A290
               have H' := Aside0.mk H
               clear H
               go_wp2_with (first | (go_at_call 61; (with_reducible refine (diffmatchpatch_zzBlankEnd.calls a1 t145 _ A29.out).mono ?_); rintro e w' ⟨rfl, ⟨nd, rfl⟩⟩))
               go_meet
               case rel => exact ⟨_, (t145), (by first | rfl | (simp; done) | (simp [*]; done)), H', ⟨by have := HJ2.out; have := HJ9.out; have := HJ14.out; have := HJ17.out; have := HJ20.out; have := HJ23.out; first | omega | exact Nat.le_refl _⟩, ⟨by repeat (first | (with_reducible first | exact HB.out | apply below_alloc | apply pw_below_drewN | apply below_drew1) | exact HB.out)⟩⟩
              case rest =>
               clear HC27
               try clear c1
               try clear c2
               try clear p2
               try clear c4
               try clear c4b0
               try clear c4b1
               try clear c5
               try clear c13
               try clear c16
               try clear c19
               try clear c22
               try clear c25
               try clear c28
               try clear p2
               obtain ⟨kq, x16_26, rfl, HA, HJ26, HB⟩ := hcut
               cases kq with
               | zero => exact absurd HA.out (by simp [diffmatchpatch_diffCleanupSemanticScore.j6])
               | succ kj26 =>
                have H := HA.out
                clear HA
                simp only [diffmatchpatch_diffCleanupSemanticScore.j6] at H
                have HC30 := Aside0.mk H
                clear H
                go_upto_region 13 with (fail)
                go_cut [72] (fun v72 wc => ∃ (kq : Nat) (x72_29 : Bool), v72 = .bool x72_29 ∧ Aside0 (diffmatchpatch_diffCleanupSemanticScore.j7 kq t138 t139 x11_9 x12_14 x13_17 x14_20 x72_29 = some r) ∧ Aside0 (kq ≤ kj26) ∧ Aside0 (Below w.heap.size w wc))
                case first =>
                 have H := HC30.out
                 clear HC30
                 by_cases c31 : x15_23 = true
                 ·subst c31
                  have H1 : (diffmatchpatch_diffCleanupSemanticScore.j7 kj26 t138 t139 x11_9 x12_14 x13_17 x14_20 true) = some r := by rw [if_pos rfl] at H; exact H
                  clear H
                  have H := H1
                  clear H1
                  have H' := Aside0.mk H
                  clear H
                  go_wp2
                  go_meet
                  case rel => exact ⟨_, (true), (by first | rfl | (simp; done) | (simp [*]; done)), H', ⟨by have := HJ2.out; have := HJ9.out; have := HJ14.out; have := HJ17.out; have := HJ20.out; have := HJ23.out; have := HJ26.out; first | omega | exact Nat.le_refl _⟩, ⟨by repeat (first | (with_reducible first | exact HB.out | apply below_alloc | apply pw_below_drewN | apply below_drew1) | exact HB.out)⟩⟩
                 replace c31 := Bool.eq_false_iff.mpr c31
                 subst c31
                 have H1 : (diffmatchpatch_diffCleanupSemanticScore.j7 kj26 t138 t139 x11_9 x12_14 x13_17 x14_20 x16_26) = some r := by rw [if_neg (show ¬ (false = true) by decide)] at H; exact H
                 clear H
                 have H := H1
                 clear H1
                 have H' := Aside0.mk H
                 clear H
                 go_wp2
                 go_meet
                 case rel => exact ⟨_, (x16_26), (by first | rfl | (simp; done) | (simp [*]; done)), H', ⟨by have := HJ2.out; have := HJ9.out; have := HJ14.out; have := HJ17.out; have := HJ20.out; have := HJ23.out; have := HJ26.out; first | omega | exact Nat.le_refl _⟩, ⟨by repeat (first | (with_reducible first | exact HB.out | apply below_alloc | apply pw_below_drewN | apply below_drew1) | exact HB.out)⟩⟩
                case rest =>
                 clear HC30
                 try clear c1
                 try clear c2
                 try clear p2
                 try clear c3
                 try clear c4
                 try clear c4b0
                 try clear c4b1
                 try clear c5
                 try clear c13
                 try clear c16
                 try clear c19
                 try clear c22
                 try clear c25
                 try clear c28
                 try clear c31
                 try clear p2
                 obtain ⟨kq, x72_29, rfl, HA, HJ29, HB⟩ := hcut
                 cases kq with
                 | zero => exact absurd HA.out (by simp [diffmatchpatch_diffCleanupSemanticScore.j7])
                 | succ kj29 =>
                  have H := HA.out
                  clear HA
                  simp only [diffmatchpatch_diffCleanupSemanticScore.j7] at H
                  by_cases c32 : x72_29 = true
                  ·subst c32
                   have H1 : (some 5) = some r := by rw [if_pos rfl] at H; exact H
                   clear H
                   have H := H1
                   clear H1
                   obtain rfl := Option.some.inj H
                   go_wp2
                   go_ret
                   exact ⟨by first | rfl | (simp [errW_none, errW_some] <;> rfl) | (simp [*, errW_none, errW_some] <;> rfl), by repeat (first | (with_reducible first | exact HB.out | apply below_alloc | apply pw_below_drewN | apply below_drew1) | exact HB.out)⟩
                  replace c32 := Bool.eq_false_iff.mpr c32
                  subst c32
                  have H1 : (if x13_17 = true then (diffmatchpatch_diffCleanupSemanticScore.j8 kj29 t138 t139 x11_9 x12_14 true) else (diffmatchpatch_diffCleanupSemanticScore.j8 kj29 t138 t139 x11_9 x12_14 x14_20)) = some r := by rw [if_neg (show ¬ (false = true) by decide)] at H; exact H
                  clear H
                  have H := H1
                  clear H1
                  have HC33 := Aside0.mk H
                  clear H
                  go_upto_region 15 with (fail)
                  go_cut [76] (fun v76 wc => ∃ (kq : Nat) (x76_32 : Bool), v76 = .bool x76_32 ∧ Aside0 (diffmatchpatch_diffCleanupSemanticScore.j8 kq t138 t139 x11_9 x12_14 x76_32 = some r) ∧ Aside0 (kq ≤ kj29) ∧ Aside0 (Below w.heap.size w wc))
                  case first =>
                   have H := HC33.out
                   clear HC33
                   by_cases c34 : x13_17 = true
                   ·subst c34
                    have H1 : (diffmatchpatch_diffCleanupSemanticScore.j8 kj29 t138 t139 x11_9 x12_14 true) = some r := by rw [if_pos rfl] at H; exact H
                    clear H
                    have H := H1
                    clear H1
                    have H' := Aside0.mk H
                    clear H
                    go_wp2
                    go_meet
                    case rel => exact ⟨_, (true), (by first | rfl | (simp; done) | (simp [*]; done)), H', ⟨by have := HJ2.out; have := HJ9.out; have := HJ14.out; have := HJ17.out; have := HJ20.out; have := HJ23.out; have := HJ26.out; have := HJ29.out; first | omega | exact Nat.le_refl _⟩, ⟨by repeat (first | (with_reducible first | exact HB.out | apply below_alloc | apply pw_below_drewN | apply below_drew1) | exact HB.out)⟩⟩
                   replace c34 := Bool.eq_false_iff.mpr c34
                   subst c34
                   have H1 : (diffmatchpatch_diffCleanupSemanticScore.j8 kj29 t138 t139 x11_9 x12_14 x14_20) = some r := by rw [if_neg (show ¬ (false = true) by decide)] at H; exact H
                   clear H
                   have H := H1
                   clear H1
                   have H' := Aside0.mk H
                   clear H
                   go_wp2
                   go_meet
                   case rel => exact ⟨_, (x14_20), (by first | rfl | (simp; done) | (simp [*]; done)), H', ⟨by have := HJ2.out; have := HJ9.out; have := HJ14.out; have := HJ17.out; have := HJ20.out; have := HJ23.out; have := HJ26.out; have := HJ29.out; first | omega | exact Nat.le_refl _⟩, ⟨by repeat (first | (with_reducible first | exact HB.out | apply below_alloc | apply pw_below_drewN | apply below_drew1) | exact HB.out)⟩⟩
                  case rest =>
                   clear HC33
                   try clear c1
                   try clear c2
                   try clear p2
                   try clear c3
                   try clear c4
                   try clear c4b0
                   try clear c4b1
                   try clear c5
                   try clear c13
                   try clear c16
                   try clear c19
                   try clear c22
                   try clear c25
                   try clear c28
                   try clear c31
                   try clear c32
                   try clear c34
                   try clear p2
                   obtain ⟨kq, x76_32, rfl, HA, HJ32, HB⟩ := hcut
                   cases kq with
                   | zero => exact absurd HA.out (by simp [diffmatchpatch_diffCleanupSemanticScore.j8])
                   | succ kj32 =>
                    have H := HA.out
                    clear HA
                    simp only [diffmatchpatch_diffCleanupSemanticScore.j8] at H
                    by_cases c35 : x76_32 = true
                    ·subst c35
                     have H1 : (some 4) = some r := by rw [if_pos rfl] at H; exact H
                     clear H
                     have H := H1
                     clear H1
                     obtain rfl := Option.some.inj H
                     go_wp2
                     go_ret
                     exact ⟨by first | rfl | (simp [errW_none, errW_some] <;> rfl) | (simp [*, errW_none, errW_some] <;> rfl), by repeat (first | (with_reducible first | exact HB.out | apply below_alloc | apply pw_below_drewN | apply below_drew1) | exact HB.out)⟩
                    replace c35 := Bool.eq_false_iff.mpr c35
                    subst c35
                    have H1 : (if t138 = true then (if x11_9 = true then (diffmatchpatch_diffCleanupSemanticScore.j9 kj32 t138 t139 x11_9 x12_14 false) else (diffmatchpatch_diffCleanupSemanticScore.j9 kj32 t138 t139 x11_9 x12_14 x12_14)) else (diffmatchpatch_diffCleanupSemanticScore.j9 kj32 t138 t139 x11_9 x12_14 false)) = some r := by rw [if_neg (show ¬ (false = true) by decide)] at H; exact H
                    clear H
                    have H := H1
                    clear H1
                    have HC36 := Aside0.mk H
                    clear H
                    go_upto_region 17 with (fail)
                    go_cut [84] (fun v84 wc => ∃ (kq : Nat) (x84_35 : Bool), v84 = .bool x84_35 ∧ Aside0 (diffmatchpatch_diffCleanupSemanticScore.j9 kq t138 t139 x11_9 x12_14 x84_35 = some r) ∧ Aside0 (kq ≤ kj32) ∧ Aside0 (Below w.heap.size w wc))
                    case first =>
                     have H := HC36.out
                     clear HC36
                     by_cases c37 : t138 = true
                     case neg =>
                      replace c37 := Bool.eq_false_iff.mpr c37
                      subst c37
                      have H1 : (diffmatchpatch_diffCleanupSemanticScore.j9 kj32 false t139 x11_9 x12_14 false) = some r := by rw [if_neg (show ¬ (false = true) by decide)] at H; exact H
                      clear H
                      have H := H1
                      clear H1
                      have H' := Aside0.mk H
                      clear H
                      go_wp2
                      go_meet
                      case rel => exact ⟨_, (false), (by first | rfl | (simp; done) | (simp [*]; done)), H', ⟨by have := HJ2.out; have := HJ9.out; have := HJ14.out; have := HJ17.out; have := HJ20.out; have := HJ23.out; have := HJ26.out; have := HJ29.out; have := HJ32.out; first | omega | exact Nat.le_refl _⟩, ⟨by repeat (first | (with_reducible first | exact HB.out | apply below_alloc | apply pw_below_drewN | apply below_drew1) | exact HB.out)⟩⟩
                     subst c37
                     have H1 : (if x11_9 = true then (diffmatchpatch_diffCleanupSemanticScore.j9 kj32 true t139 x11_9 x12_14 false) else (diffmatchpatch_diffCleanupSemanticScore.j9 kj32 true t139 x11_9 x12_14 x12_14)) = some r := by rw [if_pos rfl] at H; exact H
                     clear H
                     have H := H1
                     clear H1
                     by_cases c38 : x11_9 = true
                     ·subst c38
                      have H1 : (diffmatchpatch_diffCleanupSemanticScore.j9 kj32 true t139 true x12_14 false) = some r := by rw [if_pos rfl] at H; exact H
                      clear H
                      have H := H1
                      clear H1
                      have H' := Aside0.mk H
                      clear H
                      go_wp2
                      go_meet
                      case rel => exact ⟨_, (false), (by first | rfl | (simp; done) | (simp [*]; done)), H', ⟨by have := HJ2.out; have := HJ9.out; have := HJ14.out; have := HJ17.out; have := HJ20.out; have := HJ23.out; have := HJ26.out; have := HJ29.out; have := HJ32.out; first | omega | exact Nat.le_refl _⟩, ⟨by repeat (first | (with_reducible first | exact HB.out | apply below_alloc | apply pw_below_drewN | apply below_drew1) | exact HB.out)⟩⟩
                     replace c38 := Bool.eq_false_iff.mpr c38
                     subst c38
                     have H1 : (diffmatchpatch_diffCleanupSemanticScore.j9 kj32 true t139 false x12_14 x12_14) = some r := by rw [if_neg (show ¬ (false = true) by decide)] at H; exact H
                     clear H
                     have H := H1
                     clear H1
                     have H' := Aside0.mk H
                     clear H
                     go_wp2
                     go_meet
                     case rel => exact ⟨_, (x12_14), (by first | rfl | (simp; done) | (simp [*]; done)), H', ⟨by have := HJ2.out; have := HJ9.out; have := HJ14.out; have := HJ17.out; have := HJ20.out; have := HJ23.out; have := HJ26.out; have := HJ29.out; have := HJ32.out; first | omega | exact Nat.le_refl _⟩, ⟨by repeat (first | (with_reducible first | exact HB.out | apply below_alloc | apply pw_below_drewN | apply below_drew1) | exact HB.out)⟩⟩
                    case rest =>
                     clear HC36
                     try clear c1
                     try clear c2
                     try clear p2
                     try clear c3
                     try clear c4
                     try clear c4b0
                     try clear c4b1
                     try clear c5
                     try clear c13
                     try clear c16
                     try clear c19
                     try clear c22
                     try clear c25
                     try clear c28
                     try clear c31
                     try clear c32
                     try clear c34
                     try clear c35
                     try clear c37
                     try clear c38
                     try clear p2
                     obtain ⟨kq, x84_35, rfl, HA, HJ35, HB⟩ := hcut
                     cases kq with
                     | zero => exact absurd HA.out (by simp [diffmatchpatch_diffCleanupSemanticScore.j9])
                     | succ kj35 =>
                      have H := HA.out
                      clear HA
                      simp only [diffmatchpatch_diffCleanupSemanticScore.j9] at H
                      by_cases c39 : x84_35 = true
                      ·subst c39
                       have H1 : (some 3) = some r := by rw [if_pos rfl] at H; exact H
                       clear H
                       have H := H1
                       clear H1
                       obtain rfl := Option.some.inj H
                       go_wp2
                       go_ret
                       exact ⟨by first | rfl | (simp [errW_none, errW_some] <;> rfl) | (simp [*, errW_none, errW_some] <;> rfl), by repeat (first | (with_reducible first | exact HB.out | apply below_alloc | apply pw_below_drewN | apply below_drew1) | exact HB.out)⟩
                      replace c39 := Bool.eq_false_iff.mpr c39
                      subst c39
                      have H1 : (if x11_9 = true then (diffmatchpatch_diffCleanupSemanticScore.j10 kj35 t138 t139 true) else (diffmatchpatch_diffCleanupSemanticScore.j10 kj35 t138 t139 x12_14)) = some r := by rw [if_neg (show ¬ (false = true) by decide)] at H; exact H
                      clear H
                      have H := H1
                      clear H1
                      have HC40 := Aside0.mk H
                      clear H
                      go_upto_region 19 with (fail)
                      go_cut [88] (fun v88 wc => ∃ (kq : Nat) (x88_39 : Bool), v88 = .bool x88_39 ∧ Aside0 (diffmatchpatch_diffCleanupSemanticScore.j10 kq t138 t139 x88_39 = some r) ∧ Aside0 (kq ≤ kj35) ∧ Aside0 (Below w.heap.size w wc))
                      case first =>
                       have H := HC40.out
                       clear HC40
                       by_cases c41 : x11_9 = true
                       ·subst c41
                        have H1 : (diffmatchpatch_diffCleanupSemanticScore.j10 kj35 t138 t139 true) = some r := by rw [if_pos rfl] at H; exact H
                        clear H
                        have H := H1
                        clear H1
                        have H' := Aside0.mk H
                        clear H
                        go_wp2
                        go_meet
                        case rel => exact ⟨_, (true), (by first | rfl | (simp; done) | (simp [*]; done)), H', ⟨by have := HJ2.out; have := HJ9.out; have := HJ14.out; have := HJ17.out; have := HJ20.out; have := HJ23.out; have := HJ26.out; have := HJ29.out; have := HJ32.out; have := HJ35.out; first | omega | exact Nat.le_refl _⟩, ⟨by repeat (first | (with_reducible first | exact HB.out | apply below_alloc | apply pw_below_drewN | apply below_drew1) | exact HB.out)⟩⟩
                       replace c41 := Bool.eq_false_iff.mpr c41
                       subst c41
                       have H1 : (diffmatchpatch_diffCleanupSemanticScore.j10 kj35 t138 t139 x12_14) = some r := by rw [if_neg (show ¬ (false = true) by decide)] at H; exact H
                       clear H
                       have H := H1
                       clear H1
                       have H' := Aside0.mk H
                       clear H
                       go_wp2
                       go_meet
                       case rel => exact ⟨_, (x12_14), (by first | rfl | (simp; done) | (simp [*]; done)), H', ⟨by have := HJ2.out; have := HJ9.out; have := HJ14.out; have := HJ17.out; have := HJ20.out; have := HJ23.out; have := HJ26.out; have := HJ29.out; have := HJ32.out; have := HJ35.out; first | omega | exact Nat.le_refl _⟩, ⟨by repeat (first | (with_reducible first | exact HB.out | apply below_alloc | apply pw_below_drewN | apply below_drew1) | exact HB.out)⟩⟩
                      case rest =>
                       clear HC40
                       try clear c1
                       try clear c2
                       try clear p2
                       try clear c3
                       try clear c4
                       try clear c4b0
                       try clear c4b1
                       try clear c5
                       try clear c13
                       try clear c16
                       try clear c19
                       try clear c22
                       try clear c25
                       try clear c28
                       try clear c31
                       try clear c32
                       try clear c34
                       try clear c35
                       try clear c37
                       try clear c38
                       try clear c39
                       try clear c41
                       try clear p2
                       obtain ⟨kq, x88_39, rfl, HA, HJ39, HB⟩ := hcut
                       cases kq with
                       | zero => exact absurd HA.out (by simp [diffmatchpatch_diffCleanupSemanticScore.j10])
                       | succ kj39 =>
                        have H := HA.out
                        clear HA
                        simp only [diffmatchpatch_diffCleanupSemanticScore.j10] at H
                        by_cases c42 : x88_39 = true
                        ·subst c42
                         have H1 : (some 2) = some r := by rw [if_pos rfl] at H; exact H
                         clear H
                         have H := H1
                         clear H1
                         obtain rfl := Option.some.inj H
                         go_wp2
                         go_ret
                         exact ⟨by first | rfl | (simp [errW_none, errW_some] <;> rfl) | (simp [*, errW_none, errW_some] <;> rfl), by repeat (first | (with_reducible first | exact HB.out | apply below_alloc | apply pw_below_drewN | apply below_drew1) | exact HB.out)⟩
                        replace c42 := Bool.eq_false_iff.mpr c42
                        subst c42
                        have H1 : (if t138 = true then (some 1) else (if t139 = true then (some 1) else (some 0))) = some r := by rw [if_neg (show ¬ (false = true) by decide)] at H; exact H
                        clear H
                        have H := H1
                        clear H1
                        by_cases c43 : t138 = true
                        ·subst c43
                         have H1 : (some 1) = some r := by rw [if_pos rfl] at H; exact H
                         clear H
                         have H := H1
                         clear H1
                         obtain rfl := Option.some.inj H
                         go_wp2
                         go_ret
                         exact ⟨by first | rfl | (simp [errW_none, errW_some] <;> rfl) | (simp [*, errW_none, errW_some] <;> rfl), by repeat (first | (with_reducible first | exact HB.out | apply below_alloc | apply pw_below_drewN | apply below_drew1) | exact HB.out)⟩
                        replace c43 := Bool.eq_false_iff.mpr c43
                        subst c43
                        have H1 : (if t139 = true then (some 1) else (some 0)) = some r := by rw [if_neg (show ¬ (false = true) by decide)] at H; exact H
                        clear H
                        have H := H1
                        clear H1
                        by_cases c44 : t139 = true
                        ·subst c44
                         have H1 : (some 1) = some r := by rw [if_pos rfl] at H; exact H
                         clear H
                         have H := H1
                         clear H1
                         obtain rfl := Option.some.inj H
                         go_wp2
                         go_ret
                         exact ⟨by first | rfl | (simp [errW_none, errW_some] <;> rfl) | (simp [*, errW_none, errW_some] <;> rfl), by repeat (first | (with_reducible first | exact HB.out | apply below_alloc | apply pw_below_drewN | apply below_drew1) | exact HB.out)⟩
                        replace c44 := Bool.eq_false_iff.mpr c44
                        subst c44
                        have H1 : (some 0) = some r := by rw [if_neg (show ¬ (false = true) by decide)] at H; exact H
                        clear H
                        have H := H1
                        clear H1
                        obtain rfl := Option.some.inj H
                        go_wp2
                        go_ret
                        exact ⟨by first | rfl | (simp [errW_none, errW_some] <;> rfl) | (simp [*, errW_none, errW_some] <;> rfl), by repeat (first | (with_reducible first | exact HB.out | apply below_alloc | apply pw_below_drewN | apply below_drew1) | exact HB.out)⟩
end Go.Proofs.YtaabfadjemmibaaDoor.P