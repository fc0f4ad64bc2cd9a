-- Written by a program of this session (wip/tools): the printer's text for functions of the seat YtaabfadjemmibaaDoor. Not trusted: Lean checks it.
import Derived.Test.YtaabfadjemmibaaDoorPx0
import Derived.Test.YtaabfadjemmibaaDoorPx4
import Derived.Test.YtaabfadjemmibaaDoorPx5
import Derived.Test.YtaabfadjemmibaaDoorXDec
import Derived.Test.YtaabfadjemmibaaDoorXSplice
namespace Go.Proofs.YtaabfadjemmibaaDoor.P
open Go.RowKit Go.Proofs.YtaabfadjemmibaaDoorW.PrintWords Go.Proofs.YtaabfadjemmibaaDoorW.PrintLast Go.Proofs.YtaabfadjemmibaaDoorW.PrintMore
attribute [local go_sem] max2_int min2_int max_two min_two max_three min_three max_four min_four   -- for this text's walks alone
open Go.Proofs.YtaabfadjemmibaaDoorX
set_option linter.unusedVariables false
set_option linter.unusedSimpArgs false
/-! ### diffmatchpatch_DiffMatchPatch_DiffCleanupSemanticLossless: function 36 -/
mutual
def diffmatchpatch_DiffMatchPatch_DiffCleanupSemanticLossless.l0 : Nat → List (S59) → Int → Option ((List (S59)))
 | 0, _, _ => none
 | k + 1, x1, x5 => if x5 < (wrap64 ((x1.length : Int) - 1)) then (if 0 ≤ (wrap64 (x5 - 1)) then (if (wrap64 (x5 - 1)) < (x1.length : Int) then (if ((rd_T59 x1 (wrap64 (x5 - 1))).f0) = 0 then (if 0 ≤ (wrap64 (x5 + 1)) then (if (wrap64 (x5 + 1)) < (x1.length : Int) then (diffmatchpatch_DiffMatchPatch_DiffCleanupSemanticLossless.j1 k x1 x5 (((rd_T59 x1 (wrap64 (x5 + 1))).f0) == 0)) else (none)) else (none)) else (diffmatchpatch_DiffMatchPatch_DiffCleanupSemanticLossless.j1 k x1 x5 false)) else (none)) else (none)) else (some x1)
def diffmatchpatch_DiffMatchPatch_DiffCleanupSemanticLossless.j1 : Nat → List (S59) → Int → Bool → Option ((List (S59)))
 | 0, _, _, _ => none
 | k + 1, x1, x5, x38 => if x38 = true then (if 0 ≤ (wrap64 (x5 - 1)) then (if (wrap64 (x5 - 1)) < (x1.length : Int) then (if 0 ≤ x5 then (if x5 < (x1.length : Int) then (if 0 ≤ (wrap64 (x5 + 1)) then (if (wrap64 (x5 + 1)) < (x1.length : Int) then ((diffmatchpatch_DiffMatchPatch_DiffCommonSuffix.f k ((rd_T59 x1 (wrap64 (x5 - 1))).f1) ((rd_T59 x1 x5).f1)).bind fun t151 => (if t151 > 0 then (if 0 ≤ (wrap64 ((((rd_T59 x1 x5).f1).size : Int) - t151)) then (if (wrap64 ((((rd_T59 x1 x5).f1).size : Int) - t151)) ≤ (((rd_T59 x1 x5).f1).size : Int) then (if 0 ≤ (wrap64 ((((rd_T59 x1 (wrap64 (x5 - 1))).f1).size : Int) - t151)) then (if (wrap64 ((((rd_T59 x1 (wrap64 (x5 - 1))).f1).size : Int) - t151)) ≤ (((rd_T59 x1 (wrap64 (x5 - 1))).f1).size : Int) then (if (((rd_T59 x1 x5).f1).extract ((wrap64 ((((rd_T59 x1 x5).f1).size : Int) - t151)) : Int).toNat ((rd_T59 x1 x5).f1).size).size + (((rd_T59 x1 x5).f1).extract 0 ((wrap64 ((((rd_T59 x1 x5).f1).size : Int) - t151)) : Int).toNat).size ≤ 9223372036854775807 then (if (((rd_T59 x1 x5).f1).extract ((wrap64 ((((rd_T59 x1 x5).f1).size : Int) - t151)) : Int).toNat ((rd_T59 x1 x5).f1).size).size + ((rd_T59 x1 (wrap64 (x5 + 1))).f1).size ≤ 9223372036854775807 then (diffmatchpatch_DiffMatchPatch_DiffCleanupSemanticLossless.j2 k x1 x5 (((rd_T59 x1 (wrap64 (x5 - 1))).f1).extract 0 ((wrap64 ((((rd_T59 x1 (wrap64 (x5 - 1))).f1).size : Int) - t151)) : Int).toNat) ((((rd_T59 x1 x5).f1).extract ((wrap64 ((((rd_T59 x1 x5).f1).size : Int) - t151)) : Int).toNat ((rd_T59 x1 x5).f1).size) ++ (((rd_T59 x1 x5).f1).extract 0 ((wrap64 ((((rd_T59 x1 x5).f1).size : Int) - t151)) : Int).toNat)) ((((rd_T59 x1 x5).f1).extract ((wrap64 ((((rd_T59 x1 x5).f1).size : Int) - t151)) : Int).toNat ((rd_T59 x1 x5).f1).size) ++ ((rd_T59 x1 (wrap64 (x5 + 1))).f1))) else (none)) else (none)) else (none)) else (none)) else (none)) else (none)) else (diffmatchpatch_DiffMatchPatch_DiffCleanupSemanticLossless.j2 k x1 x5 ((rd_T59 x1 (wrap64 (x5 - 1))).f1) ((rd_T59 x1 x5).f1) ((rd_T59 x1 (wrap64 (x5 + 1))).f1)))) else (none)) else (none)) else (none)) else (none)) else (none)) else (none)) else (diffmatchpatch_DiffMatchPatch_DiffCleanupSemanticLossless.l0 k x1 (wrap64 (x5 + 1)))
def diffmatchpatch_DiffMatchPatch_DiffCleanupSemanticLossless.j2 : Nat → List (S59) → Int → ByteArray → ByteArray → ByteArray → Option ((List (S59)))
 | 0, _, _, _, _, _ => none
 | k + 1, x1, x5, x6, x7, x8 => (diffmatchpatch_diffCleanupSemanticScore.f k x6 x7).bind fun t152 => ((diffmatchpatch_diffCleanupSemanticScore.f k x7 x8).bind fun t153 => (diffmatchpatch_DiffMatchPatch_DiffCleanupSemanticLossless.l1 k x1 x5 x6 x7 x8 x6 x7 x8 (wrap64 (t152 + t153))))
def diffmatchpatch_DiffMatchPatch_DiffCleanupSemanticLossless.j6 : Nat → List (S59) → Int → ByteArray → ByteArray → ByteArray → Option ((List (S59)))
 | 0, _, _, _, _, _ => none
 | k + 1, x1, x5, x11, x12, x13 => if 0 ≤ (wrap64 (x5 - 1)) then (if (wrap64 (x5 - 1)) < (x1.length : Int) then (if ((rd_T59 x1 (wrap64 (x5 - 1))).f1).toList = x11.toList then (diffmatchpatch_DiffMatchPatch_DiffCleanupSemanticLossless.l0 k x1 (wrap64 (x5 + 1))) else (if (x11.size : Int) = 0 then ((diffmatchpatch_splice.f x1 (wrap64 (x5 - 1)) 1 ([] : List (S59))).bind fun t159 => (if (wrap64 (x5 - 1)) < (t159.length : Int) then ((some (t159.set ((wrap64 (x5 - 1)) : Int).toNat (⟨(rd_T59 t159 (wrap64 (x5 - 1))).f0, x12⟩ : S59) : List (S59))).bind fun y162 => (if (x13.size : Int) = 0 then (if 0 ≤ (wrap64 ((wrap64 (x5 - 1)) + 1)) then (if (wrap64 ((wrap64 (x5 - 1)) + 1)) ≤ (t159.length : Int) then (if 0 ≤ (wrap64 ((wrap64 (x5 - 1)) + 2)) then (if (wrap64 ((wrap64 (x5 - 1)) + 2)) ≤ (t159.length : Int) then (diffmatchpatch_DiffMatchPatch_DiffCleanupSemanticLossless.l0 k (y162.eraseIdx ((wrap64 ((wrap64 (x5 - 1)) + 1)) : Int).toNat) (wrap64 ((wrap64 ((wrap64 (x5 - 1)) - 1)) + 1))) else (none)) else (none)) else (none)) else (none)) else (if 0 ≤ (wrap64 ((wrap64 (x5 - 1)) + 1)) then (if (wrap64 ((wrap64 (x5 - 1)) + 1)) < (t159.length : Int) then (diffmatchpatch_DiffMatchPatch_DiffCleanupSemanticLossless.l0 k (y162.set ((wrap64 ((wrap64 (x5 - 1)) + 1)) : Int).toNat (⟨(rd_T59 y162 (wrap64 ((wrap64 (x5 - 1)) + 1))).f0, x13⟩ : S59)) (wrap64 ((wrap64 (x5 - 1)) + 1))) else (none)) else (none)))) else (none))) else ((some (x1.set ((wrap64 (x5 - 1)) : Int).toNat (⟨(rd_T59 x1 (wrap64 (x5 - 1))).f0, x11⟩ : S59) : List (S59))).bind fun y175 => (if 0 ≤ x5 then (if x5 < (x1.length : Int) then ((some (y175.set (x5 : Int).toNat (⟨(rd_T59 y175 x5).f0, x12⟩ : S59) : List (S59))).bind fun y176 => (if (x13.size : Int) = 0 then (if 0 ≤ (wrap64 (x5 + 1)) then (if (wrap64 (x5 + 1)) ≤ (x1.length : Int) then (if 0 ≤ (wrap64 (x5 + 2)) then (if (wrap64 (x5 + 2)) ≤ (x1.length : Int) then (diffmatchpatch_DiffMatchPatch_DiffCleanupSemanticLossless.l0 k (y176.eraseIdx ((wrap64 (x5 + 1)) : Int).toNat) (wrap64 ((wrap64 (x5 - 1)) + 1))) else (none)) else (none)) else (none)) else (none)) else (if 0 ≤ (wrap64 (x5 + 1)) then (if (wrap64 (x5 + 1)) < (x1.length : Int) then (diffmatchpatch_DiffMatchPatch_DiffCleanupSemanticLossless.l0 k (y176.set ((wrap64 (x5 + 1)) : Int).toNat (⟨(rd_T59 y176 (wrap64 (x5 + 1))).f0, x13⟩ : S59)) (wrap64 (x5 + 1))) else (none)) else (none)))) else (none)) else (none))))) else (none)) else (none)
def diffmatchpatch_DiffMatchPatch_DiffCleanupSemanticLossless.l1 : Nat → List (S59) → Int → ByteArray → ByteArray → ByteArray → ByteArray → ByteArray → ByteArray → Int → Option ((List (S59)))
 | 0, _, _, _, _, _, _, _, _, _ => none
 | k + 1, x1, x5, x6, x7, x8, x11, x12, x13, x14 => if (x7.size : Int) = 0 then (diffmatchpatch_DiffMatchPatch_DiffCleanupSemanticLossless.j4 k x1 x5 x6 x7 x8 x11 x12 x13 x14 false) else (diffmatchpatch_DiffMatchPatch_DiffCleanupSemanticLossless.j4 k x1 x5 x6 x7 x8 x11 x12 x13 x14 ((x8.size : Int) != 0))
def diffmatchpatch_DiffMatchPatch_DiffCleanupSemanticLossless.j4 : Nat → List (S59) → Int → ByteArray → ByteArray → ByteArray → ByteArray → ByteArray → ByteArray → Int → Bool → Option ((List (S59)))
 | 0, _, _, _, _, _, _, _, _, _, _ => none
 | k + 1, x1, x5, x6, x7, x8, x11, x12, x13, x14, x102 => if x102 = true then ((utf8_DecodeRuneInString.f x7).bind fun bt154 => (if (x8.size : Int) < bt154.2 then (diffmatchpatch_DiffMatchPatch_DiffCleanupSemanticLossless.j5 k x1 x5 x6 x7 x8 x11 x12 x13 x14 bt154.2 true) else (if 0 ≤ bt154.2 then (if bt154.2 ≤ (x7.size : Int) then (if bt154.2 ≤ (x8.size : Int) then (diffmatchpatch_DiffMatchPatch_DiffCleanupSemanticLossless.j5 k x1 x5 x6 x7 x8 x11 x12 x13 x14 bt154.2 ((x7.extract 0 (bt154.2 : Int).toNat).toList != (x8.extract 0 (bt154.2 : Int).toNat).toList)) else (none)) else (none)) else (none)))) else (diffmatchpatch_DiffMatchPatch_DiffCleanupSemanticLossless.j6 k x1 x5 x11 x12 x13)
def diffmatchpatch_DiffMatchPatch_DiffCleanupSemanticLossless.j5 : Nat → List (S59) → Int → ByteArray → ByteArray → ByteArray → ByteArray → ByteArray → ByteArray → Int → Int → Bool → Option ((List (S59)))
 | 0, _, _, _, _, _, _, _, _, _, _, _ => none
 | k + 1, x1, x5, x6, x7, x8, x11, x12, x13, x14, x16, x120 => if x120 = true then (diffmatchpatch_DiffMatchPatch_DiffCleanupSemanticLossless.j6 k x1 x5 x11 x12 x13) else (if 0 ≤ x16 then (if x16 ≤ (x7.size : Int) then (if x6.size + (x7.extract 0 (x16 : Int).toNat).size ≤ 9223372036854775807 then (if x16 ≤ (x8.size : Int) then (if (x7.extract (x16 : Int).toNat x7.size).size + (x8.extract 0 (x16 : Int).toNat).size ≤ 9223372036854775807 then ((diffmatchpatch_diffCleanupSemanticScore.f k (x6 ++ (x7.extract 0 (x16 : Int).toNat)) ((x7.extract (x16 : Int).toNat x7.size) ++ (x8.extract 0 (x16 : Int).toNat))).bind fun t156 => ((diffmatchpatch_diffCleanupSemanticScore.f k ((x7.extract (x16 : Int).toNat x7.size) ++ (x8.extract 0 (x16 : Int).toNat)) (x8.extract (x16 : Int).toNat x8.size)).bind fun t157 => (if (wrap64 (t156 + t157)) ≥ x14 then (diffmatchpatch_DiffMatchPatch_DiffCleanupSemanticLossless.l1 k x1 x5 (x6 ++ (x7.extract 0 (x16 : Int).toNat)) ((x7.extract (x16 : Int).toNat x7.size) ++ (x8.extract 0 (x16 : Int).toNat)) (x8.extract (x16 : Int).toNat x8.size) (x6 ++ (x7.extract 0 (x16 : Int).toNat)) ((x7.extract (x16 : Int).toNat x7.size) ++ (x8.extract 0 (x16 : Int).toNat)) (x8.extract (x16 : Int).toNat x8.size) (wrap64 (t156 + t157))) else (diffmatchpatch_DiffMatchPatch_DiffCleanupSemanticLossless.l1 k x1 x5 (x6 ++ (x7.extract 0 (x16 : Int).toNat)) ((x7.extract (x16 : Int).toNat x7.size) ++ (x8.extract 0 (x16 : Int).toNat)) (x8.extract (x16 : Int).toNat x8.size) x11 x12 x13 x14)))) else (none)) else (none)) else (none)) else (none)) else (none))
end
def diffmatchpatch_DiffMatchPatch_DiffCleanupSemanticLossless.f (k : Nat)  (l1 : List (S59)) : Option ((List (S59))) := diffmatchpatch_DiffMatchPatch_DiffCleanupSemanticLossless.l0 k l1 1
theorem diffmatchpatch_DiffMatchPatch_DiffCleanupSemanticLossless.mono_l : ∀ k, (∀ y0 y1, LeO (diffmatchpatch_DiffMatchPatch_DiffCleanupSemanticLossless.l0 k y0 y1) (diffmatchpatch_DiffMatchPatch_DiffCleanupSemanticLossless.l0 (k + 1) y0 y1)) ∧ (∀ y0 y1 y2, LeO (diffmatchpatch_DiffMatchPatch_DiffCleanupSemanticLossless.j1 k y0 y1 y2) (diffmatchpatch_DiffMatchPatch_DiffCleanupSemanticLossless.j1 (k + 1) y0 y1 y2)) ∧ (∀ y0 y1 y2 y3 y4, LeO (diffmatchpatch_DiffMatchPatch_DiffCleanupSemanticLossless.j2 k y0 y1 y2 y3 y4) (diffmatchpatch_DiffMatchPatch_DiffCleanupSemanticLossless.j2 (k + 1) y0 y1 y2 y3 y4)) ∧ (∀ y0 y1 y2 y3 y4, LeO (diffmatchpatch_DiffMatchPatch_DiffCleanupSemanticLossless.j6 k y0 y1 y2 y3 y4) (diffmatchpatch_DiffMatchPatch_DiffCleanupSemanticLossless.j6 (k + 1) y0 y1 y2 y3 y4)) ∧ (∀ y0 y1 y2 y3 y4 y5 y6 y7 y8, LeO (diffmatchpatch_DiffMatchPatch_DiffCleanupSemanticLossless.l1 k y0 y1 y2 y3 y4 y5 y6 y7 y8) (diffmatchpatch_DiffMatchPatch_DiffCleanupSemanticLossless.l1 (k + 1) y0 y1 y2 y3 y4 y5 y6 y7 y8)) ∧ (∀ y0 y1 y2 y3 y4 y5 y6 y7 y8 y9, LeO (diffmatchpatch_DiffMatchPatch_DiffCleanupSemanticLossless.j4 k y0 y1 y2 y3 y4 y5 y6 y7 y8 y9) (diffmatchpatch_DiffMatchPatch_DiffCleanupSemanticLossless.j4 (k + 1) y0 y1 y2 y3 y4 y5 y6 y7 y8 y9)) ∧ (∀ y0 y1 y2 y3 y4 y5 y6 y7 y8 y9 y10, LeO (diffmatchpatch_DiffMatchPatch_DiffCleanupSemanticLossless.j5 k y0 y1 y2 y3 y4 y5 y6 y7 y8 y9 y10) (diffmatchpatch_DiffMatchPatch_DiffCleanupSemanticLossless.j5 (k + 1) y0 y1 y2 y3 y4 y5 y6 y7 y8 y9 y10))
 | 0 => ⟨fun _ _ r h => by simp [diffmatchpatch_DiffMatchPatch_DiffCleanupSemanticLossless.l0] at h, fun _ _ _ r h => by simp [diffmatchpatch_DiffMatchPatch_DiffCleanupSemanticLossless.j1] at h, fun _ _ _ _ _ r h => by simp [diffmatchpatch_DiffMatchPatch_DiffCleanupSemanticLossless.j2] at h, fun _ _ _ _ _ r h => by simp [diffmatchpatch_DiffMatchPatch_DiffCleanupSemanticLossless.j6] at h, fun _ _ _ _ _ _ _ _ _ r h => by simp [diffmatchpatch_DiffMatchPatch_DiffCleanupSemanticLossless.l1] at h, fun _ _ _ _ _ _ _ _ _ _ r h => by simp [diffmatchpatch_DiffMatchPatch_DiffCleanupSemanticLossless.j4] at h, fun _ _ _ _ _ _ _ _ _ _ _ r h => by simp [diffmatchpatch_DiffMatchPatch_DiffCleanupSemanticLossless.j5] at h⟩
 | k + 1 => by
  obtain ⟨ih0, ih1, ih2, ih3, ih4, ih5, ih6⟩ := diffmatchpatch_DiffMatchPatch_DiffCleanupSemanticLossless.mono_l k
  refine ⟨?_, ?_, ?_, ?_, ?_, ?_, ?_⟩
  ·intro y0 y1
   unfold diffmatchpatch_DiffMatchPatch_DiffCleanupSemanticLossless.l0
   repeat' first
   | (with_reducible exact ih0 _ _)
   | (with_reducible exact ih1 _ _ _)
   | (with_reducible exact ih2 _ _ _ _ _)
   | (with_reducible exact ih3 _ _ _ _ _)
   | (with_reducible exact ih4 _ _ _ _ _ _ _ _ _)
   | (with_reducible exact ih5 _ _ _ _ _ _ _ _ _ _)
   | (with_reducible exact ih6 _ _ _ _ _ _ _ _ _ _ _)
   | (with_reducible exact diffmatchpatch_DiffMatchPatch_DiffCommonSuffix.mono _ _ _)
   | (with_reducible exact diffmatchpatch_diffCleanupSemanticScore.mono _ _ _)
   | (with_reducible exact LeO.refl _)
   | (with_reducible exact LeO.none _)
   | (with_reducible refine LeO.ite ?_ ?_)
   | (with_reducible refine LeO.bind ?_ (fun _ => ?_))
   | exact ih0 _ _
   | exact ih1 _ _ _
   | exact ih2 _ _ _ _ _
   | exact ih3 _ _ _ _ _
   | exact ih4 _ _ _ _ _ _ _ _ _
   | exact ih5 _ _ _ _ _ _ _ _ _ _
   | exact ih6 _ _ _ _ _ _ _ _ _ _ _
   | exact diffmatchpatch_DiffMatchPatch_DiffCommonSuffix.mono _ _ _
   | exact diffmatchpatch_diffCleanupSemanticScore.mono _ _ _
   | exact LeO.none _
   | refine LeO.ite ?_ ?_
   | refine LeO.bind ?_ (fun _ => ?_)
  ·intro y0 y1 y2
   unfold diffmatchpatch_DiffMatchPatch_DiffCleanupSemanticLossless.j1
   repeat' first
   | (with_reducible exact ih0 _ _)
   | (with_reducible exact ih1 _ _ _)
   | (with_reducible exact ih2 _ _ _ _ _)
   | (with_reducible exact ih3 _ _ _ _ _)
   | (with_reducible exact ih4 _ _ _ _ _ _ _ _ _)
   | (with_reducible exact ih5 _ _ _ _ _ _ _ _ _ _)
   | (with_reducible exact ih6 _ _ _ _ _ _ _ _ _ _ _)
   | (with_reducible exact diffmatchpatch_DiffMatchPatch_DiffCommonSuffix.mono _ _ _)
   | (with_reducible exact diffmatchpatch_diffCleanupSemanticScore.mono _ _ _)
   | (with_reducible exact LeO.refl _)
   | (with_reducible exact LeO.none _)
   | (with_reducible refine LeO.ite ?_ ?_)
   | (with_reducible refine LeO.bind ?_ (fun _ => ?_))
   | exact ih0 _ _
   | exact ih1 _ _ _
   | exact ih2 _ _ _ _ _
   | exact ih3 _ _ _ _ _
   | exact ih4 _ _ _ _ _ _ _ _ _
   | exact ih5 _ _ _ _ _ _ _ _ _ _
   | exact ih6 _ _ _ _ _ _ _ _ _ _ _
   | exact diffmatchpatch_DiffMatchPatch_DiffCommonSuffix.mono _ _ _
   | exact diffmatchpatch_diffCleanupSemanticScore.mono _ _ _
   | exact LeO.none _
   | refine LeO.ite ?_ ?_
   | refine LeO.bind ?_ (fun _ => ?_)
  ·intro y0 y1 y2 y3 y4
   unfold diffmatchpatch_DiffMatchPatch_DiffCleanupSemanticLossless.j2
   repeat' first
   | (with_reducible exact ih0 _ _)
   | (with_reducible exact ih1 _ _ _)
   | (with_reducible exact ih2 _ _ _ _ _)
   | (with_reducible exact ih3 _ _ _ _ _)
   | (with_reducible exact ih4 _ _ _ _ _ _ _ _ _)
   | (with_reducible exact ih5 _ _ _ _ _ _ _ _ _ _)
   | (with_reducible exact ih6 _ _ _ _ _ _ _ _ _ _ _)
   | (with_reducible exact diffmatchpatch_DiffMatchPatch_DiffCommonSuffix.mono _ _ _)
   | (with_reducible exact diffmatchpatch_diffCleanupSemanticScore.mono _ _ _)
   | (with_reducible exact LeO.refl _)
   | (with_reducible exact LeO.none _)
   | (with_reducible refine LeO.ite ?_ ?_)
   | (with_reducible refine LeO.bind ?_ (fun _ => ?_))
   | exact ih0 _ _
   | exact ih1 _ _ _
   | exact ih2 _ _ _ _ _
   | exact ih3 _ _ _ _ _
   | exact ih4 _ _ _ _ _ _ _ _ _
   | exact ih5 _ _ _ _ _ _ _ _ _ _
   | exact ih6 _ _ _ _ _ _ _ _ _ _ _
   | exact diffmatchpatch_DiffMatchPatch_DiffCommonSuffix.mono _ _ _
   | exact diffmatchpatch_diffCleanupSemanticScore.mono _ _ _
   | exact LeO.none _
   | refine LeO.ite ?_ ?_
   | refine LeO.bind ?_ (fun _ => ?_)
  ·intro y0 y1 y2 y3 y4
   unfold diffmatchpatch_DiffMatchPatch_DiffCleanupSemanticLossless.j6
   repeat' first
   | (with_reducible exact ih0 _ _)
   | (with_reducible exact ih1 _ _ _)
   | (with_reducible exact ih2 _ _ _ _ _)
   | (with_reducible exact ih3 _ _ _ _ _)
   | (with_reducible exact ih4 _ _ _ _ _ _ _ _ _)
   | (with_reducible exact ih5 _ _ _ _ _ _ _ _ _ _)
   | (with_reducible exact ih6 _ _ _ _ _ _ _ _ _ _ _)
   | (with_reducible exact diffmatchpatch_DiffMatchPatch_DiffCommonSuffix.mono _ _ _)
   | (with_reducible exact diffmatchpatch_diffCleanupSemanticScore.mono _ _ _)
   | (with_reducible exact LeO.refl _)
   | (with_reducible exact LeO.none _)
   | (with_reducible refine LeO.ite ?_ ?_)
   | (with_reducible refine LeO.bind ?_ (fun _ => ?_))
   | exact ih0 _ _
   | exact ih1 _ _ _
   | exact ih2 _ _ _ _ _
   | exact ih3 _ _ _ _ _
   | exact ih4 _ _ _ _ _ _ _ _ _
   | exact ih5 _ _ _ _ _ _ _ _ _ _
   | exact ih6 _ _ _ _ _ _ _ _ _ _ _
   | exact diffmatchpatch_DiffMatchPatch_DiffCommonSuffix.mono _ _ _
   | exact diffmatchpatch_diffCleanupSemanticScore.mono _ _ _
   | exact LeO.none _
   | refine LeO.ite ?_ ?_
   | refine LeO.bind ?_ (fun _ => ?_)
  ·intro y0 y1 y2 y3 y4 y5 y6 y7 y8
   unfold diffmatchpatch_DiffMatchPatch_DiffCleanupSemanticLossless.l1
   repeat' first
   | (with_reducible exact ih0 _ _)
   | (with_reducible exact ih1 _ _ _)
   | (with_reducible exact ih2 _ _ _ _ _)
   | (with_reducible exact ih3 _ _ _ _ _)
   | (with_reducible exact ih4 _ _ _ _ _ _ _ _ _)
   | (with_reducible exact ih5 _ _ _ _ _ _ _ _ _ _)
   | (with_reducible exact ih6 _ _ _ _ _ _ _ _ _ _ _)
   | (with_reducible exact diffmatchpatch_DiffMatchPatch_DiffCommonSuffix.mono _ _ _)
   | (with_reducible exact diffmatchpatch_diffCleanupSemanticScore.mono _ _ _)
   | (with_reducible exact LeO.refl _)
   | (with_reducible exact LeO.none _)
   | (with_reducible refine LeO.ite ?_ ?_)
   | (with_reducible refine LeO.bind ?_ (fun _ => ?_))
   | exact ih0 _ _
   | exact ih1 _ _ _
   | exact ih2 _ _ _ _ _
   | exact ih3 _ _ _ _ _
   | exact ih4 _ _ _ _ _ _ _ _ _
   | exact ih5 _ _ _ _ _ _ _ _ _ _
   | exact ih6 _ _ _ _ _ _ _ _ _ _ _
   | exact diffmatchpatch_DiffMatchPatch_DiffCommonSuffix.mono _ _ _
   | exact diffmatchpatch_diffCleanupSemanticScore.mono _ _ _
   | exact LeO.none _
   | refine LeO.ite ?_ ?_
   | refine LeO.bind ?_ (fun _ => ?_)
  ·intro y0 y1 y2 y3 y4 y5 y6 y7 y8 y9
   unfold diffmatchpatch_DiffMatchPatch_DiffCleanupSemanticLossless.j4
   repeat' first
   | (with_reducible exact ih0 _ _)
   | (with_reducible exact ih1 _ _ _)
   | (with_reducible exact ih2 _ _ _ _ _)
   | (with_reducible exact ih3 _ _ _ _ _)
   | (with_reducible exact ih4 _ _ _ _ _ _ _ _ _)
   | (with_reducible exact ih5 _ _ _ _ _ _ _ _ _ _)
   | (with_reducible exact ih6 _ _ _ _ _ _ _ _ _ _ _)
   | (with_reducible exact diffmatchpatch_DiffMatchPatch_DiffCommonSuffix.mono _ _ _)
   | (with_reducible exact diffmatchpatch_diffCleanupSemanticScore.mono _ _ _)
   | (with_reducible exact LeO.refl _)
   | (with_reducible exact LeO.none _)
   | (with_reducible refine LeO.ite ?_ ?_)
   | (with_reducible refine LeO.bind ?_ (fun _ => ?_))
   | exact ih0 _ _
   | exact ih1 _ _ _
   | exact ih2 _ _ _ _ _
   | exact ih3 _ _ _ _ _
   | exact ih4 _ _ _ _ _ _ _ _ _
   | exact ih5 _ _ _ _ _ _ _ _ _ _
   | exact ih6 _ _ _ _ _ _ _ _ _ _ _
   | exact diffmatchpatch_DiffMatchPatch_DiffCommonSuffix.mono _ _ _
   | exact diffmatchpatch_diffCleanupSemanticScore.mono _ _ _
   | exact LeO.none _
   | refine LeO.ite ?_ ?_
   | refine LeO.bind ?_ (fun _ => ?_)
  ·intro y0 y1 y2 y3 y4 y5 y6 y7 y8 y9 y10
   unfold diffmatchpatch_DiffMatchPatch_DiffCleanupSemanticLossless.j5
   repeat' first
   | (with_reducible exact ih0 _ _)
   | (with_reducible exact ih1 _ _ _)
   | (with_reducible exact ih2 _ _ _ _ _)
   | (with_reducible exact ih3 _ _ _ _ _)
   | (with_reducible exact ih4 _ _ _ _ _ _ _ _ _)
   | (with_reducible exact ih5 _ _ _ _ _ _ _ _ _ _)
   | (with_reducible exact ih6 _ _ _ _ _ _ _ _ _ _ _)
   | (with_reducible exact diffmatchpatch_DiffMatchPatch_DiffCommonSuffix.mono _ _ _)
   | (with_reducible exact diffmatchpatch_diffCleanupSemanticScore.mono _ _ _)
   | (with_reducible exact LeO.refl _)
   | (with_reducible exact LeO.none _)
   | (with_reducible refine LeO.ite ?_ ?_)
   | (with_reducible refine LeO.bind ?_ (fun _ => ?_))
   | exact ih0 _ _
   | exact ih1 _ _ _
   | exact ih2 _ _ _ _ _
   | exact ih3 _ _ _ _ _
   | exact ih4 _ _ _ _ _ _ _ _ _
   | exact ih5 _ _ _ _ _ _ _ _ _ _
   | exact ih6 _ _ _ _ _ _ _ _ _ _ _
   | exact diffmatchpatch_DiffMatchPatch_DiffCommonSuffix.mono _ _ _
   | exact diffmatchpatch_diffCleanupSemanticScore.mono _ _ _
   | exact LeO.none _
   | refine LeO.ite ?_ ?_
   | refine LeO.bind ?_ (fun _ => ?_)
theorem diffmatchpatch_DiffMatchPatch_DiffCleanupSemanticLossless.mono : ∀ a0 k, LeO (diffmatchpatch_DiffMatchPatch_DiffCleanupSemanticLossless.f k a0) (diffmatchpatch_DiffMatchPatch_DiffCleanupSemanticLossless.f (k + 1) a0) := by
 intro a0 k
 obtain ⟨ih0, ih1, ih2, ih3, ih4, ih5, ih6⟩ := diffmatchpatch_DiffMatchPatch_DiffCleanupSemanticLossless.mono_l k
 unfold diffmatchpatch_DiffMatchPatch_DiffCleanupSemanticLossless.f
 repeat' first
   | (with_reducible exact ih0 _ _)
   | (with_reducible exact ih1 _ _ _)
   | (with_reducible exact ih2 _ _ _ _ _)
   | (with_reducible exact ih3 _ _ _ _ _)
   | (with_reducible exact ih4 _ _ _ _ _ _ _ _ _)
   | (with_reducible exact ih5 _ _ _ _ _ _ _ _ _ _)
   | (with_reducible exact ih6 _ _ _ _ _ _ _ _ _ _ _)
   | (with_reducible exact diffmatchpatch_DiffMatchPatch_DiffCommonSuffix.mono _ _ _)
   | (with_reducible exact diffmatchpatch_diffCleanupSemanticScore.mono _ _ _)
   | (with_reducible exact LeO.refl _)
   | (with_reducible exact LeO.none _)
   | (with_reducible refine LeO.ite ?_ ?_)
   | (with_reducible refine LeO.bind ?_ (fun _ => ?_))
   | exact ih0 _ _
   | exact ih1 _ _ _
   | exact ih2 _ _ _ _ _
   | exact ih3 _ _ _ _ _
   | exact ih4 _ _ _ _ _ _ _ _ _
   | exact ih5 _ _ _ _ _ _ _ _ _ _
   | exact ih6 _ _ _ _ _ _ _ _ _ _ _
   | exact diffmatchpatch_DiffMatchPatch_DiffCommonSuffix.mono _ _ _
   | exact diffmatchpatch_diffCleanupSemanticScore.mono _ _ _
   | exact LeO.none _
   | refine LeO.ite ?_ ?_
   | refine LeO.bind ?_ (fun _ => ?_)
def diffmatchpatch_DiffMatchPatch_DiffCleanupSemanticLossless.T19 : Bool × List (List Nat × List Nat) := (true, [([], []), ([0], [0]), ([], []), ([1, 2], [1, 2]), ([3], [3]), ([4], [4]), ([4], [4]), ([5, 6, 4], [4, 5, 6]), ([4], [4]), ([4], [4]), ([8, 9, 4], [4, 8, 9]), ([7, 10, 4], [4, 7, 10]), ([4, 11], [4, 11])])
def diffmatchpatch_DiffMatchPatch_DiffCleanupSemanticLossless.B19 : List Nat := [0, 1, 0, 7, 15, 31, 31, 127, 31, 31, 799, 2047, 4095]
theorem diffmatchpatch_DiffMatchPatch_DiffCleanupSemanticLossless.tab19 : rtab .any (opsOf Tryd.f36 19) = diffmatchpatch_DiffMatchPatch_DiffCleanupSemanticLossless.T19 := by kernel_rfl
theorem diffmatchpatch_DiffMatchPatch_DiffCleanupSemanticLossless.bits19 : waitsOk diffmatchpatch_DiffMatchPatch_DiffCleanupSemanticLossless.T19.2 diffmatchpatch_DiffMatchPatch_DiffCleanupSemanticLossless.B19 = true := by kernel_rfl
def diffmatchpatch_DiffMatchPatch_DiffCleanupSemanticLossless.T21 : Bool × List (List Nat × List Nat) := (true, [([], []), ([], []), ([0, 1], [0, 1]), ([], []), ([], []), ([3, 4], [3, 4]), ([2, 5], [2, 5]), ([6, 0, 1, 2, 3, 4, 5, 6], [0, 6])])
def diffmatchpatch_DiffMatchPatch_DiffCleanupSemanticLossless.B21 : List Nat := [0, 0, 3, 0, 0, 24, 63, 127]
theorem diffmatchpatch_DiffMatchPatch_DiffCleanupSemanticLossless.tab21 : rtab .any (opsOf Tryd.f36 21) = diffmatchpatch_DiffMatchPatch_DiffCleanupSemanticLossless.T21 := by kernel_rfl
theorem diffmatchpatch_DiffMatchPatch_DiffCleanupSemanticLossless.bits21 : waitsOk diffmatchpatch_DiffMatchPatch_DiffCleanupSemanticLossless.T21.2 diffmatchpatch_DiffMatchPatch_DiffCleanupSemanticLossless.B21 = true := by kernel_rfl
def diffmatchpatch_DiffMatchPatch_DiffCleanupSemanticLossless.T37 : Bool × List (List Nat × List Nat) := (true, [([], []), ([], []), ([1], [1]), ([0, 2], [0, 2]), ([], []), ([], []), ([5], [5]), ([4, 6], [4, 6]), ([3, 7], [3, 7]), ([8, 8, 0, 1, 2, 3, 4, 5, 6, 7, 8], [0, 4, 8])])
def diffmatchpatch_DiffMatchPatch_DiffCleanupSemanticLossless.B37 : List Nat := [0, 0, 2, 7, 0, 0, 32, 112, 255, 511]
theorem diffmatchpatch_DiffMatchPatch_DiffCleanupSemanticLossless.tab37 : rtab .any (opsOf Tryd.f36 37) = diffmatchpatch_DiffMatchPatch_DiffCleanupSemanticLossless.T37 := by kernel_rfl
theorem diffmatchpatch_DiffMatchPatch_DiffCleanupSemanticLossless.bits37 : waitsOk diffmatchpatch_DiffMatchPatch_DiffCleanupSemanticLossless.T37.2 diffmatchpatch_DiffMatchPatch_DiffCleanupSemanticLossless.B37 = true := by kernel_rfl
set_option maxHeartbeats 8000000 in
set_option maxRecDepth 100000 in
theorem diffmatchpatch_DiffMatchPatch_DiffCleanupSemanticLossless.calls (k : Nat) (p0_ : Value) (P1_ : Nat → Prop) (u9000_ : Value) (l1 : List (S59)) (r : List (S59)) (w0 w : World) (hB : Below w0.heap.size w0 w) (hG_ : Glob w0) (ho1 : Kd.R k59 59 w w0.heap.size P1_ u9000_ l1) (h : diffmatchpatch_DiffMatchPatch_DiffCleanupSemanticLossless.f k l1 = some r) :
  Calls Tryd.prog 36 #[p0_, u9000_] w fun e w' => ∃ v0_ : Value, e = .returned (v0_) ∧ Kd.R k59 59 w' w0.heap.size (fun k_ => (P1_ k_ ∨ w.heap.size ≤ k_)) v0_ r ∧ Below w0.heap.size w0 w' ∧ Kept w w' (fun k_ => P1_ k_) := by
 have HO1 := Aside0.mk (show Kd.R k59 59 w w0.heap.size (fun k_ => (P1_ k_ ∨ w.heap.size ≤ k_)) u9000_ l1 from Kd.R_mono ho1 (fun k_ hk => (.inl hk)))
 have HK := Aside0.mk (Kept.refl w (fun k_ => P1_ k_))
 have HW0 := Aside0.mk hB.size
 have HB := Aside0.mk hB
 clear hB
 have H : (diffmatchpatch_DiffMatchPatch_DiffCleanupSemanticLossless.l0 k l1 1) = some r := h
 clear h
 have H' := Aside0.mk H
 clear H
 go_enter Tryd.func36, Tryd.ntmps36
 go_wp2
 go_loopg [1, 5] k (fun kq v1 v5 w' => ∃ (x1_1 : List (S59)) (x5_1 : Int), v5 = .int .i64 x5_1 ∧ Aside0 (diffmatchpatch_DiffMatchPatch_DiffCleanupSemanticLossless.l0 kq x1_1 x5_1 = some r) ∧ Aside0 (kq ≤ k) ∧ Aside0 (Kd.R k59 59 w' w0.heap.size (fun k_ => (P1_ k_ ∨ w.heap.size ≤ k_)) v1 x1_1) ∧ Aside0 (Kept w w' (fun k_ => P1_ k_)) ∧ Aside0 (Below w0.heap.size w0 w'))
 case atStart => exact ⟨(l1), (1), (by first | rfl | (simp; done) | (simp [*]; done)), H', ⟨Nat.le_refl _⟩, ⟨by (with_reducible repeat (first | apply Kd.R_alloc | apply Kd.R_drewN | apply Kd.R_drew)); exact HO1.out⟩, ⟨by repeat (first | (with_reducible first | exact HK.out | apply Kept.alloc | apply Kept.drewN | apply Kept.drew) | exact HK.out)⟩, ⟨by repeat (first | (with_reducible first | exact HB.out | apply below_alloc | apply pw_below_drewN | apply below_drew1) | exact HB.out)⟩⟩
 case round => as_aux_lemma =>
   clear H'
   try clear p2
   obtain ⟨x1_1, x5_1, rfl, HA, HK1, HO_1, HK, HB⟩ := hrel
   cases gk with
   | zero => exact absurd HA.out (by simp [diffmatchpatch_DiffMatchPatch_DiffCleanupSemanticLossless.l0])
   | succ k1 =>
    have H := HA.out
    clear HA
    simp only [diffmatchpatch_DiffMatchPatch_DiffCleanupSemanticLossless.l0] at H
    by_cases c3 : x5_1 < (wrap64 ((x1_1.length : Int) - 1))
    case neg =>
     rw [if_neg c3] at H
     have c3b0 : decide (x5_1 < (wrap64 ((x1_1.length : Int) - 1))) = false := decide_eq_false c3
     clear c3
     obtain rfl := Option.some.inj H
     obtain ⟨Ao136, co136, eo136⟩ := Kd.R_slice HO_1.out
     subst eo136
     go_wp2
     go_ret
     exact ⟨_, by first | rfl | (simp [errW_none, errW_some] <;> rfl) | (simp [*, errW_none, errW_some] <;> rfl), by (with_reducible repeat (first | apply Kd.R_alloc | apply Kd.R_drewN | apply Kd.R_drew)); exact HO_1.out, by repeat (first | (with_reducible first | exact HB.out | apply below_alloc | apply pw_below_drewN | apply below_drew1) | exact HB.out), by repeat (first | (with_reducible first | exact HK.out | apply Kept.alloc | apply Kept.drewN | apply Kept.drew) | exact HK.out)⟩
    rw [if_pos c3] at H
    have c3b0 : decide (x5_1 < (wrap64 ((x1_1.length : Int) - 1))) = true := decide_eq_true c3
    clear c3
    have HC4 := Aside0.mk H
    clear H
    obtain ⟨Ao5, co5, eo5⟩ := Kd.R_slice HO_1.out
    subst eo5
    go_upto_region 3 with (fail)
    go_cut [38] (fun v38 wc => ∃ (kq : Nat) (x38_3 : Bool), v38 = .bool x38_3 ∧ Aside0 (diffmatchpatch_DiffMatchPatch_DiffCleanupSemanticLossless.j1 kq x1_1 x5_1 x38_3 = some r) ∧ Aside0 (kq ≤ k1) ∧ Aside0 (Kd.R k59 59 wc w0.heap.size (fun k_ => (P1_ k_ ∨ w.heap.size ≤ k_)) (.slice Ao5 x1_1.length co5) x1_1) ∧ Aside0 (Kept w wc (fun k_ => P1_ k_)) ∧ Aside0 (Below w0.heap.size w0 wc))
    case first =>
     have H := HC4.out
     clear HC4
     obtain ⟨ji6, hji6⟩ : ∃ j_ : Int, (wrap64 (x5_1 - 1)) = j_ := ⟨_, rfl⟩
     replace H : (if 0 ≤ (ji6) then (if (ji6) < (x1_1.length : Int) then (if ((rd_T59 x1_1 (ji6)).f0) = 0 then (if 0 ≤ (wrap64 (x5_1 + 1)) then (if (wrap64 (x5_1 + 1)) < (x1_1.length : Int) then (diffmatchpatch_DiffMatchPatch_DiffCleanupSemanticLossless.j1 k1 x1_1 x5_1 (((rd_T59 x1_1 (wrap64 (x5_1 + 1))).f0) == 0)) else (none)) else (none)) else (diffmatchpatch_DiffMatchPatch_DiffCleanupSemanticLossless.j1 k1 x1_1 x5_1 false)) else (none)) else (none)) = some r := by first | (rw [hji6] at H; exact H) | (simp only [hji6] at H ⊢; exact H)
     have hji6w : (IntKind.i64.wrap (x5_1 - 1)) = ji6 := (i64_w _).trans hji6
     by_cases c7 : 0 ≤ (ji6)
     case neg =>
      rw [if_neg c7] at H
      exact absurd H (by simp)
     rw [if_pos c7] at H
     have c7b0 : decide (0 ≤ (ji6)) = true := decide_eq_true c7
     clear c7
     (first | rw [c7b0] | (simp only [i64_w, i32_w]; rw [c7b0]) | rw [c7b1] | skip)
     by_cases c8 : (ji6) < (x1_1.length : Int)
     case neg =>
      rw [if_neg c8] at H
      exact absurd H (by simp)
     rw [if_pos c8] at H
     have c8b0 : decide ((ji6) < (x1_1.length : Int)) = true := decide_eq_true c8
     clear c8
     by_cases c9 : ((rd_T59 x1_1 (ji6)).f0) = 0
     case neg =>
      rw [if_neg c9] at H
      have c9b0 : (((rd_T59 x1_1 (ji6)).f0) == 0) = false := beq_eq_false_iff_ne.mpr c9
      have c9b1 : (((rd_T59 x1_1 (ji6)).f0) != 0) = true := bne_iff_ne.mpr c9
      have H' := Aside0.mk H
      clear H
      have p146 : 0 ≤ ((ji6) : Int) := of_decide_eq_true (by first | (with_reducible assumption) | assumption)
      have q146 : (ji6) < (x1_1.length : Int) := of_decide_eq_true (by first | (with_reducible assumption) | assumption)
      obtain ⟨ad146, e146, hx146_0, hx146_1⟩ := at_T59 (Kd.R_reads' HO_1.out).2.2 (ji6) p146 q146
      cases e146
      replace p146 := eq_true p146
      replace q146 := eq_true q146
      go_wp2
      go_meet
      case rel => exact ⟨_, (false), (by first | rfl | (simp; done) | (simp [*]; done)), H', ⟨by have := HK1.out; first | omega | exact Nat.le_refl _⟩, ⟨by (with_reducible repeat (first | apply Kd.R_alloc | apply Kd.R_drewN | apply Kd.R_drew)); exact HO_1.out⟩, ⟨by repeat (first | (with_reducible first | exact HK.out | apply Kept.alloc | apply Kept.drewN | apply Kept.drew) | exact HK.out)⟩, ⟨by repeat (first | (with_reducible first | exact HB.out | apply below_alloc | apply pw_below_drewN | apply below_drew1) | exact HB.out)⟩⟩
     rw [if_pos c9] at H
     have c9b0 : (((rd_T59 x1_1 (ji6)).f0) == 0) = true := beq_iff_eq.mpr c9
     have c9b1 : (((rd_T59 x1_1 (ji6)).f0) != 0) = false := bne_eq_false_iff_eq.mpr c9
     clear c9
     obtain ⟨ji10, hji10⟩ : ∃ j_ : Int, (wrap64 (x5_1 + 1)) = j_ := ⟨_, rfl⟩
     replace H : (if 0 ≤ (ji10) then (if (ji10) < (x1_1.length : Int) then (diffmatchpatch_DiffMatchPatch_DiffCleanupSemanticLossless.j1 k1 x1_1 x5_1 (((rd_T59 x1_1 (ji10)).f0) == 0)) else (none)) else (none)) = some r := by first | (rw [hji10] at H; exact H) | (simp only [hji10] at H ⊢; exact H)
     have hji10w : (IntKind.i64.wrap (x5_1 + 1)) = ji10 := (i64_w _).trans hji10
     by_cases c11 : 0 ≤ (ji10)
     case neg =>
      rw [if_neg c11] at H
      exact absurd H (by simp)
     rw [if_pos c11] at H
     have c11b0 : decide (0 ≤ (ji10)) = true := decide_eq_true c11
     clear c11
     by_cases c12 : (ji10) < (x1_1.length : Int)
     case neg =>
      rw [if_neg c12] at H
      exact absurd H (by simp)
     rw [if_pos c12] at H
     have c12b0 : decide ((ji10) < (x1_1.length : Int)) = true := decide_eq_true c12
     clear c12
     have H' := Aside0.mk H
     clear H
     have p146 : 0 ≤ ((ji6) : Int) := of_decide_eq_true (by first | (with_reducible assumption) | assumption)
     have q146 : (ji6) < (x1_1.length : Int) := of_decide_eq_true (by first | (with_reducible assumption) | assumption)
     obtain ⟨ad146, e146, hx146_0, hx146_1⟩ := at_T59 (Kd.R_reads' HO_1.out).2.2 (ji6) p146 q146
     cases e146
     replace p146 := eq_true p146
     replace q146 := eq_true q146
     have p147 : 0 ≤ ((ji10) : Int) := of_decide_eq_true (by first | (with_reducible assumption) | assumption)
     have q147 : (ji10) < (x1_1.length : Int) := of_decide_eq_true (by first | (with_reducible assumption) | assumption)
     obtain ⟨ad147, e147, hx147_0, hx147_1⟩ := at_T59 (Kd.R_reads' HO_1.out).2.2 (ji10) p147 q147
     obtain rfl : ad146 = ad147 := (by injection e147)
     replace p147 := eq_true p147
     replace q147 := eq_true q147
     go_wp2
     go_meet
     case rel => exact ⟨_, ((((rd_T59 x1_1 (ji10)).f0) == 0)), (by first | rfl | (simp; done) | (simp only [← hji10] <;> (first | rfl | simp)) | (simp [*]; done)), H', ⟨by have := HK1.out; first | omega | exact Nat.le_refl _⟩, ⟨by (with_reducible repeat (first | apply Kd.R_alloc | apply Kd.R_drewN | apply Kd.R_drew)); exact HO_1.out⟩, ⟨by repeat (first | (with_reducible first | exact HK.out | apply Kept.alloc | apply Kept.drewN | apply Kept.drew) | exact HK.out)⟩, ⟨by repeat (first | (with_reducible first | exact HB.out | apply below_alloc | apply pw_below_drewN | apply below_drew1) | exact HB.out)⟩⟩
    case rest =>
     clear HC4
     try clear c1
     try clear p1
     try clear q1
     try clear hx1
     try clear p2
     try clear c3
     try clear c3b0
     try clear p6
     try clear c7
     try clear c7b0
     try clear c7b1
     try clear c8
     try clear c8b0
     try clear c9
     try clear c9b0
     try clear c9b1
     try clear c11
     try clear c11b0
     try clear c12
     try clear c12b0
     try clear hx146_0
     try clear hx146_1
     try clear hx147_0
     try clear hx147_1
     try clear p146
     try clear p147
     try clear p2
     try clear q146
     try clear q147
     obtain ⟨kq, x38_3, rfl, HA, HJ3, HO_1, HK, HB⟩ := hcut
     cases kq with
     | zero => exact absurd HA.out (by simp [diffmatchpatch_DiffMatchPatch_DiffCleanupSemanticLossless.j1])
     | succ kj3 =>
      have H := HA.out
      clear HA
      simp only [diffmatchpatch_DiffMatchPatch_DiffCleanupSemanticLossless.j1] at H
      by_cases c13 : x38_3 = true
      case neg =>
       replace c13 := Bool.eq_false_iff.mpr c13
       subst c13
       have H1 : (diffmatchpatch_DiffMatchPatch_DiffCleanupSemanticLossless.l0 kj3 x1_1 (wrap64 (x5_1 + 1))) = some r := by rw [if_neg (show ¬ (false = true) by decide)] at H; exact H
       clear H
       have H := H1
       clear H1
       have H' := Aside0.mk H
       clear H
       go_wp2
       go_roundg kj3
       case measure => have := HK1.out; have := HJ3.out; omega
       case rel => exact ⟨(x1_1), (wrap64 (x5_1 + 1)), (by first | rfl | (simp; done) | (simp [*]; done)), H', ⟨by have := HK1.out; have := HJ3.out; omega⟩, ⟨by (with_reducible repeat (first | apply Kd.R_alloc | apply Kd.R_drewN | apply Kd.R_drew)); exact HO_1.out⟩, ⟨by repeat (first | (with_reducible first | exact HK.out | apply Kept.alloc | apply Kept.drewN | apply Kept.drew) | exact HK.out)⟩, ⟨by repeat (first | (with_reducible first | exact HB.out | apply below_alloc | apply pw_below_drewN | apply below_drew1) | exact HB.out)⟩⟩
      subst c13
      have H1 : (if 0 ≤ (wrap64 (x5_1 - 1)) then (if (wrap64 (x5_1 - 1)) < (x1_1.length : Int) then (if 0 ≤ x5_1 then (if x5_1 < (x1_1.length : Int) then (if 0 ≤ (wrap64 (x5_1 + 1)) then (if (wrap64 (x5_1 + 1)) < (x1_1.length : Int) then ((diffmatchpatch_DiffMatchPatch_DiffCommonSuffix.f kj3 ((rd_T59 x1_1 (wrap64 (x5_1 - 1))).f1) ((rd_T59 x1_1 x5_1).f1)).bind fun t151 => (if t151 > 0 then (if 0 ≤ (wrap64 ((((rd_T59 x1_1 x5_1).f1).size : Int) - t151)) then (if (wrap64 ((((rd_T59 x1_1 x5_1).f1).size : Int) - t151)) ≤ (((rd_T59 x1_1 x5_1).f1).size : Int) then (if 0 ≤ (wrap64 ((((rd_T59 x1_1 (wrap64 (x5_1 - 1))).f1).size : Int) - t151)) then (if (wrap64 ((((rd_T59 x1_1 (wrap64 (x5_1 - 1))).f1).size : Int) - t151)) ≤ (((rd_T59 x1_1 (wrap64 (x5_1 - 1))).f1).size : Int) then (if (((rd_T59 x1_1 x5_1).f1).extract ((wrap64 ((((rd_T59 x1_1 x5_1).f1).size : Int) - t151)) : Int).toNat ((rd_T59 x1_1 x5_1).f1).size).size + (((rd_T59 x1_1 x5_1).f1).extract 0 ((wrap64 ((((rd_T59 x1_1 x5_1).f1).size : Int) - t151)) : Int).toNat).size ≤ 9223372036854775807 then (if (((rd_T59 x1_1 x5_1).f1).extract ((wrap64 ((((rd_T59 x1_1 x5_1).f1).size : Int) - t151)) : Int).toNat ((rd_T59 x1_1 x5_1).f1).size).size + ((rd_T59 x1_1 (wrap64 (x5_1 + 1))).f1).size ≤ 9223372036854775807 then (diffmatchpatch_DiffMatchPatch_DiffCleanupSemanticLossless.j2 kj3 x1_1 x5_1 (((rd_T59 x1_1 (wrap64 (x5_1 - 1))).f1).extract 0 ((wrap64 ((((rd_T59 x1_1 (wrap64 (x5_1 - 1))).f1).size : Int) - t151)) : Int).toNat) ((((rd_T59 x1_1 x5_1).f1).extract ((wrap64 ((((rd_T59 x1_1 x5_1).f1).size : Int) - t151)) : Int).toNat ((rd_T59 x1_1 x5_1).f1).size) ++ (((rd_T59 x1_1 x5_1).f1).extract 0 ((wrap64 ((((rd_T59 x1_1 x5_1).f1).size : Int) - t151)) : Int).toNat)) ((((rd_T59 x1_1 x5_1).f1).extract ((wrap64 ((((rd_T59 x1_1 x5_1).f1).size : Int) - t151)) : Int).toNat ((rd_T59 x1_1 x5_1).f1).size) ++ ((rd_T59 x1_1 (wrap64 (x5_1 + 1))).f1))) else (none)) else (none)) else (none)) else (none)) else (none)) else (none)) else (diffmatchpatch_DiffMatchPatch_DiffCleanupSemanticLossless.j2 kj3 x1_1 x5_1 ((rd_T59 x1_1 (wrap64 (x5_1 - 1))).f1) ((rd_T59 x1_1 x5_1).f1) ((rd_T59 x1_1 (wrap64 (x5_1 + 1))).f1)))) else (none)) else (none)) else (none)) else (none)) else (none)) else (none)) = some r := by rw [if_pos rfl] at H; exact H
      clear H
      have H := H1
      clear H1
      obtain ⟨ji14, hji14⟩ : ∃ j_ : Int, (wrap64 (x5_1 - 1)) = j_ := ⟨_, rfl⟩
      replace H : (if 0 ≤ (ji14) then (if (ji14) < (x1_1.length : Int) then (if 0 ≤ x5_1 then (if x5_1 < (x1_1.length : Int) then (if 0 ≤ (wrap64 (x5_1 + 1)) then (if (wrap64 (x5_1 + 1)) < (x1_1.length : Int) then ((diffmatchpatch_DiffMatchPatch_DiffCommonSuffix.f kj3 ((rd_T59 x1_1 (ji14)).f1) ((rd_T59 x1_1 x5_1).f1)).bind fun t151 => (if t151 > 0 then (if 0 ≤ (wrap64 ((((rd_T59 x1_1 x5_1).f1).size : Int) - t151)) then (if (wrap64 ((((rd_T59 x1_1 x5_1).f1).size : Int) - t151)) ≤ (((rd_T59 x1_1 x5_1).f1).size : Int) then (if 0 ≤ (wrap64 ((((rd_T59 x1_1 (ji14)).f1).size : Int) - t151)) then (if (wrap64 ((((rd_T59 x1_1 (ji14)).f1).size : Int) - t151)) ≤ (((rd_T59 x1_1 (ji14)).f1).size : Int) then (if (((rd_T59 x1_1 x5_1).f1).extract ((wrap64 ((((rd_T59 x1_1 x5_1).f1).size : Int) - t151)) : Int).toNat ((rd_T59 x1_1 x5_1).f1).size).size + (((rd_T59 x1_1 x5_1).f1).extract 0 ((wrap64 ((((rd_T59 x1_1 x5_1).f1).size : Int) - t151)) : Int).toNat).size ≤ 9223372036854775807 then (if (((rd_T59 x1_1 x5_1).f1).extract ((wrap64 ((((rd_T59 x1_1 x5_1).f1).size : Int) - t151)) : Int).toNat ((rd_T59 x1_1 x5_1).f1).size).size + ((rd_T59 x1_1 (wrap64 (x5_1 + 1))).f1).size ≤ 9223372036854775807 then (diffmatchpatch_DiffMatchPatch_DiffCleanupSemanticLossless.j2 kj3 x1_1 x5_1 (((rd_T59 x1_1 (ji14)).f1).extract 0 ((wrap64 ((((rd_T59 x1_1 (ji14)).f1).size : Int) - t151)) : Int).toNat) ((((rd_T59 x1_1 x5_1).f1).extract ((wrap64 ((((rd_T59 x1_1 x5_1).f1).size : Int) - t151)) : Int).toNat ((rd_T59 x1_1 x5_1).f1).size) ++ (((rd_T59 x1_1 x5_1).f1).extract 0 ((wrap64 ((((rd_T59 x1_1 x5_1).f1).size : Int) - t151)) : Int).toNat)) ((((rd_T59 x1_1 x5_1).f1).extract ((wrap64 ((((rd_T59 x1_1 x5_1).f1).size : Int) - t151)) : Int).toNat ((rd_T59 x1_1 x5_1).f1).size) ++ ((rd_T59 x1_1 (wrap64 (x5_1 + 1))).f1))) else (none)) else (none)) else (none)) else (none)) else (none)) else (none)) else (diffmatchpatch_DiffMatchPatch_DiffCleanupSemanticLossless.j2 kj3 x1_1 x5_1 ((rd_T59 x1_1 (ji14)).f1) ((rd_T59 x1_1 x5_1).f1) ((rd_T59 x1_1 (wrap64 (x5_1 + 1))).f1)))) else (none)) else (none)) else (none)) else (none)) else (none)) else (none)) = some r := by first | (rw [hji14] at H; exact H) | (simp only [hji14] at H ⊢; exact H)
      have hji14w : (IntKind.i64.wrap (x5_1 - 1)) = ji14 := (i64_w _).trans hji14
      by_cases c15 : 0 ≤ (ji14)
      case neg =>
       rw [if_neg c15] at H
       exact absurd H (by simp)
      rw [if_pos c15] at H
      have c15b0 : decide (0 ≤ (ji14)) = true := decide_eq_true c15
      clear c15
      by_cases c16 : (ji14) < (x1_1.length : Int)
      case neg =>
       rw [if_neg c16] at H
       exact absurd H (by simp)
      rw [if_pos c16] at H
      have c16b0 : decide ((ji14) < (x1_1.length : Int)) = true := decide_eq_true c16
      clear c16
      by_cases c17 : 0 ≤ x5_1
      case neg =>
       rw [if_neg c17] at H
       exact absurd H (by simp)
      rw [if_pos c17] at H
      have c17b0 : decide (0 ≤ x5_1) = true := decide_eq_true c17
      clear c17
      by_cases c18 : x5_1 < (x1_1.length : Int)
      case neg =>
       rw [if_neg c18] at H
       exact absurd H (by simp)
      rw [if_pos c18] at H
      have c18b0 : decide (x5_1 < (x1_1.length : Int)) = true := decide_eq_true c18
      clear c18
      obtain ⟨ji19, hji19⟩ : ∃ j_ : Int, (wrap64 (x5_1 + 1)) = j_ := ⟨_, rfl⟩
      replace H : (if 0 ≤ (ji19) then (if (ji19) < (x1_1.length : Int) then ((diffmatchpatch_DiffMatchPatch_DiffCommonSuffix.f kj3 ((rd_T59 x1_1 (ji14)).f1) ((rd_T59 x1_1 x5_1).f1)).bind fun t151 => (if t151 > 0 then (if 0 ≤ (wrap64 ((((rd_T59 x1_1 x5_1).f1).size : Int) - t151)) then (if (wrap64 ((((rd_T59 x1_1 x5_1).f1).size : Int) - t151)) ≤ (((rd_T59 x1_1 x5_1).f1).size : Int) then (if 0 ≤ (wrap64 ((((rd_T59 x1_1 (ji14)).f1).size : Int) - t151)) then (if (wrap64 ((((rd_T59 x1_1 (ji14)).f1).size : Int) - t151)) ≤ (((rd_T59 x1_1 (ji14)).f1).size : Int) then (if (((rd_T59 x1_1 x5_1).f1).extract ((wrap64 ((((rd_T59 x1_1 x5_1).f1).size : Int) - t151)) : Int).toNat ((rd_T59 x1_1 x5_1).f1).size).size + (((rd_T59 x1_1 x5_1).f1).extract 0 ((wrap64 ((((rd_T59 x1_1 x5_1).f1).size : Int) - t151)) : Int).toNat).size ≤ 9223372036854775807 then (if (((rd_T59 x1_1 x5_1).f1).extract ((wrap64 ((((rd_T59 x1_1 x5_1).f1).size : Int) - t151)) : Int).toNat ((rd_T59 x1_1 x5_1).f1).size).size + ((rd_T59 x1_1 (ji19)).f1).size ≤ 9223372036854775807 then (diffmatchpatch_DiffMatchPatch_DiffCleanupSemanticLossless.j2 kj3 x1_1 x5_1 (((rd_T59 x1_1 (ji14)).f1).extract 0 ((wrap64 ((((rd_T59 x1_1 (ji14)).f1).size : Int) - t151)) : Int).toNat) ((((rd_T59 x1_1 x5_1).f1).extract ((wrap64 ((((rd_T59 x1_1 x5_1).f1).size : Int) - t151)) : Int).toNat ((rd_T59 x1_1 x5_1).f1).size) ++ (((rd_T59 x1_1 x5_1).f1).extract 0 ((wrap64 ((((rd_T59 x1_1 x5_1).f1).size : Int) - t151)) : Int).toNat)) ((((rd_T59 x1_1 x5_1).f1).extract ((wrap64 ((((rd_T59 x1_1 x5_1).f1).size : Int) - t151)) : Int).toNat ((rd_T59 x1_1 x5_1).f1).size) ++ ((rd_T59 x1_1 (ji19)).f1))) else (none)) else (none)) else (none)) else (none)) else (none)) else (none)) else (diffmatchpatch_DiffMatchPatch_DiffCleanupSemanticLossless.j2 kj3 x1_1 x5_1 ((rd_T59 x1_1 (ji14)).f1) ((rd_T59 x1_1 x5_1).f1) ((rd_T59 x1_1 (ji19)).f1)))) else (none)) else (none)) = some r := by first | (rw [hji19] at H; exact H) | (simp only [hji19] at H ⊢; exact H)
      have hji19w : (IntKind.i64.wrap (x5_1 + 1)) = ji19 := (i64_w _).trans hji19
      by_cases c20 : 0 ≤ (ji19)
      case neg =>
       rw [if_neg c20] at H
       exact absurd H (by simp)
      rw [if_pos c20] at H
      have c20b0 : decide (0 ≤ (ji19)) = true := decide_eq_true c20
      clear c20
      by_cases c21 : (ji19) < (x1_1.length : Int)
      case neg =>
       rw [if_neg c21] at H
       exact absurd H (by simp)
      rw [if_pos c21] at H
      have c21b0 : decide ((ji19) < (x1_1.length : Int)) = true := decide_eq_true c21
      clear c21
      replace H := Option.bind_eq_some_iff.mp H
      obtain ⟨t151, A220, H⟩ := H
      replace H : (if t151 > 0 then (if 0 ≤ (wrap64 ((((rd_T59 x1_1 x5_1).f1).size : Int) - t151)) then (if (wrap64 ((((rd_T59 x1_1 x5_1).f1).size : Int) - t151)) ≤ (((rd_T59 x1_1 x5_1).f1).size : Int) then (if 0 ≤ (wrap64 ((((rd_T59 x1_1 (ji14)).f1).size : Int) - t151)) then (if (wrap64 ((((rd_T59 x1_1 (ji14)).f1).size : Int) - t151)) ≤ (((rd_T59 x1_1 (ji14)).f1).size : Int) then (if (((rd_T59 x1_1 x5_1).f1).extract ((wrap64 ((((rd_T59 x1_1 x5_1).f1).size : Int) - t151)) : Int).toNat ((rd_T59 x1_1 x5_1).f1).size).size + (((rd_T59 x1_1 x5_1).f1).extract 0 ((wrap64 ((((rd_T59 x1_1 x5_1).f1).size : Int) - t151)) : Int).toNat).size ≤ 9223372036854775807 then (if (((rd_T59 x1_1 x5_1).f1).extract ((wrap64 ((((rd_T59 x1_1 x5_1).f1).size : Int) - t151)) : Int).toNat ((rd_T59 x1_1 x5_1).f1).size).size + ((rd_T59 x1_1 (ji19)).f1).size ≤ 9223372036854775807 then (diffmatchpatch_DiffMatchPatch_DiffCleanupSemanticLossless.j2 kj3 x1_1 x5_1 (((rd_T59 x1_1 (ji14)).f1).extract 0 ((wrap64 ((((rd_T59 x1_1 (ji14)).f1).size : Int) - t151)) : Int).toNat) ((((rd_T59 x1_1 x5_1).f1).extract ((wrap64 ((((rd_T59 x1_1 x5_1).f1).size : Int) - t151)) : Int).toNat ((rd_T59 x1_1 x5_1).f1).size) ++ (((rd_T59 x1_1 x5_1).f1).extract 0 ((wrap64 ((((rd_T59 x1_1 x5_1).f1).size : Int) - t151)) : Int).toNat)) ((((rd_T59 x1_1 x5_1).f1).extract ((wrap64 ((((rd_T59 x1_1 x5_1).f1).size : Int) - t151)) : Int).toNat ((rd_T59 x1_1 x5_1).f1).size) ++ ((rd_T59 x1_1 (ji19)).f1))) else (none)) else (none)) else (none)) else (none)) else (none)) else (none)) else (diffmatchpatch_DiffMatchPatch_DiffCleanupSemanticLossless.j2 kj3 x1_1 x5_1 ((rd_T59 x1_1 (ji14)).f1) ((rd_T59 x1_1 x5_1).f1) ((rd_T59 x1_1 (ji19)).f1))) = some r := H
      have A22 := Aside0.mk A220
      clear A220
      have HC23 := Aside0.mk H
      clear H
      have p148 : 0 ≤ ((ji14) : Int) := of_decide_eq_true (by first | (with_reducible assumption) | assumption)
      have q148 : (ji14) < (x1_1.length : Int) := of_decide_eq_true (by first | (with_reducible assumption) | assumption)
      obtain ⟨ad148, e148, hx148_0, hx148_1⟩ := at_T59 (Kd.R_reads' HO_1.out).2.2 (ji14) p148 q148
      cases e148
      replace p148 := eq_true p148
      replace q148 := eq_true q148
      have p149 : 0 ≤ (x5_1 : Int) := of_decide_eq_true (by first | (with_reducible assumption) | assumption)
      have q149 : x5_1 < (x1_1.length : Int) := of_decide_eq_true (by first | (with_reducible assumption) | assumption)
      obtain ⟨ad149, e149, hx149_0, hx149_1⟩ := at_T59 (Kd.R_reads' HO_1.out).2.2 x5_1 p149 q149
      obtain rfl : ad148 = ad149 := (by injection e149)
      replace p149 := eq_true p149
      replace q149 := eq_true q149
      have p150 : 0 ≤ ((ji19) : Int) := of_decide_eq_true (by first | (with_reducible assumption) | assumption)
      have q150 : (ji19) < (x1_1.length : Int) := of_decide_eq_true (by first | (with_reducible assumption) | assumption)
      obtain ⟨ad150, e150, hx150_0, hx150_1⟩ := at_T59 (Kd.R_reads' HO_1.out).2.2 (ji19) p150 q150
      obtain rfl : ad148 = ad150 := (by injection e150)
      replace p150 := eq_true p150
      replace q150 := eq_true q150
      go_upto_if 61 with (first | ((with_reducible refine gate_callee (f := 46) rfl ?_); refine goesL_ (some 59) rfl rfl Tryd.func46 (by kernel_rfl) rfl #[p0_, .string ((rd_T59 x1_1 (ji14)).f1), .string ((rd_T59 x1_1 x5_1).f1)] rfl (by (try simp only [List.map_toArray, List.map_cons, List.map_nil]); first | done | (simp only [hji14]; rfl) | rfl | (simp only [List.length_drop, List.length_take]; rfl)) ?_; (with_reducible refine (diffmatchpatch_DiffMatchPatch_DiffCommonSuffix.calls kj3 p0_ ((rd_T59 x1_1 (ji14)).f1) ((rd_T59 x1_1 x5_1).f1) t151 _ A22.out).mono ?_); rintro e w24 ⟨rfl, hb⟩; refine ⟨_, rfl, ?_⟩; have n0_ := Aside0.mk (Kd.R_below (by (with_reducible repeat (first | apply Kd.R_alloc | apply Kd.R_drewN | apply Kd.R_drew)); exact HO_1.out) hb); have n1_ := Aside0.mk (Kept.below (S := (fun k_ => P1_ k_)) (by repeat (first | (with_reducible first | exact HK.out | apply Kept.alloc | apply Kept.drewN | apply Kept.drew) | exact HK.out)) hb); have n2_ := Aside0.mk (below_step (by repeat (first | (with_reducible first | exact HB.out | apply below_alloc | apply pw_below_drewN | apply below_drew1) | exact HB.out)) hb); clear HO_1; clear HK; clear HB; have HO_1 := n0_; have HK := n1_; have HB := n2_; clear n0_ n1_ n2_; (try clear hb); (try clear hb2); (try clear hk); (try clear hi)))
      (try simp only [Act.put, List.setIfInBounds_toArray, List.set_cons_zero, List.set_cons_succ])
      go_cut [6, 7, 8] (fun v6 v7 v8 wc => ∃ (kq : Nat) (x6_22 : ByteArray) (x7_22 : ByteArray) (x8_22 : ByteArray), v6 = .string x6_22 ∧ v7 = .string x7_22 ∧ v8 = .string x8_22 ∧ Aside0 (diffmatchpatch_DiffMatchPatch_DiffCleanupSemanticLossless.j2 kq x1_1 x5_1 x6_22 x7_22 x8_22 = some r) ∧ Aside0 (kq ≤ kj3) ∧ Aside0 (Kd.R k59 59 wc w0.heap.size (fun k_ => (P1_ k_ ∨ w.heap.size ≤ k_)) (.slice (some ad148) x1_1.length co5) x1_1) ∧ Aside0 (Kept w wc (fun k_ => P1_ k_)) ∧ Aside0 (Below w0.heap.size w0 wc))
      case first =>
       have H := HC23.out
       clear HC23
       by_cases c25 : t151 > 0
       case neg =>
        rw [if_neg c25] at H
        have c25b0 : decide (0 < t151) = false := decide_eq_false c25
        clear c25
        (first | rw [c25b0] | (simp only [i64_w, i32_w]; rw [c25b0]) | rw [c25b1] | skip)
        have H' := Aside0.mk H
        clear H
        go_wp2
        go_meet
        case rel => exact ⟨_, ((rd_T59 x1_1 (ji14)).f1), ((rd_T59 x1_1 x5_1).f1), ((rd_T59 x1_1 (ji19)).f1), (by first | rfl | (simp; done) | (simp only [← hji14] <;> (first | rfl | simp)) | (simp [*]; done)), (by first | rfl | (simp; done) | (simp [*]; done)), (by first | rfl | (simp; done) | (simp only [← hji19] <;> (first | rfl | simp)) | (simp [*]; done)), H', ⟨by have := HK1.out; have := HJ3.out; first | omega | exact Nat.le_refl _⟩, ⟨by (with_reducible repeat (first | apply Kd.R_alloc | apply Kd.R_drewN | apply Kd.R_drew)); exact HO_1.out⟩, ⟨by repeat (first | (with_reducible first | exact HK.out | apply Kept.alloc | apply Kept.drewN | apply Kept.drew) | exact HK.out)⟩, ⟨by repeat (first | (with_reducible first | exact HB.out | apply below_alloc | apply pw_below_drewN | apply below_drew1) | exact HB.out)⟩⟩
       rw [if_pos c25] at H
       have c25b0 : decide (0 < t151) = true := decide_eq_true c25
       clear c25
       (first | rw [c25b0] | (simp only [i64_w, i32_w]; rw [c25b0]) | rw [c25b1] | skip)
       obtain ⟨ji26, hji26⟩ : ∃ j_ : Int, (wrap64 ((((rd_T59 x1_1 x5_1).f1).size : Int) - t151)) = j_ := ⟨_, rfl⟩
       replace H : (if 0 ≤ (ji26) then (if (ji26) ≤ (((rd_T59 x1_1 x5_1).f1).size : Int) then (if 0 ≤ (wrap64 ((((rd_T59 x1_1 (ji14)).f1).size : Int) - t151)) then (if (wrap64 ((((rd_T59 x1_1 (ji14)).f1).size : Int) - t151)) ≤ (((rd_T59 x1_1 (ji14)).f1).size : Int) then (if (((rd_T59 x1_1 x5_1).f1).extract ((ji26) : Int).toNat ((rd_T59 x1_1 x5_1).f1).size).size + (((rd_T59 x1_1 x5_1).f1).extract 0 ((ji26) : Int).toNat).size ≤ 9223372036854775807 then (if (((rd_T59 x1_1 x5_1).f1).extract ((ji26) : Int).toNat ((rd_T59 x1_1 x5_1).f1).size).size + ((rd_T59 x1_1 (ji19)).f1).size ≤ 9223372036854775807 then (diffmatchpatch_DiffMatchPatch_DiffCleanupSemanticLossless.j2 kj3 x1_1 x5_1 (((rd_T59 x1_1 (ji14)).f1).extract 0 ((wrap64 ((((rd_T59 x1_1 (ji14)).f1).size : Int) - t151)) : Int).toNat) ((((rd_T59 x1_1 x5_1).f1).extract ((ji26) : Int).toNat ((rd_T59 x1_1 x5_1).f1).size) ++ (((rd_T59 x1_1 x5_1).f1).extract 0 ((ji26) : Int).toNat)) ((((rd_T59 x1_1 x5_1).f1).extract ((ji26) : Int).toNat ((rd_T59 x1_1 x5_1).f1).size) ++ ((rd_T59 x1_1 (ji19)).f1))) else (none)) else (none)) else (none)) else (none)) else (none)) else (none)) = some r := by first | (rw [hji26] at H; exact H) | (simp only [hji26] at H ⊢; exact H)
       have hji26w : (IntKind.i64.wrap ((((rd_T59 x1_1 x5_1).f1).size : Int) - t151)) = ji26 := (i64_w _).trans hji26
       by_cases c27 : 0 ≤ (ji26)
       case neg =>
        rw [if_neg c27] at H
        exact absurd H (by simp)
       rw [if_pos c27] at H
       have c27b0 := eq_true c27
       have c27b1 : decide (0 ≤ (ji26)) = true := decide_eq_true c27
       clear c27
       by_cases c28 : (ji26) ≤ (((rd_T59 x1_1 x5_1).f1).size : Int)
       case neg =>
        rw [if_neg c28] at H
        exact absurd H (by simp)
       rw [if_pos c28] at H
       have c28b0 := eq_true c28
       have c28b1 : decide ((ji26) ≤ (((rd_T59 x1_1 x5_1).f1).size : Int)) = true := decide_eq_true c28
       clear c28
       obtain ⟨ji29, hji29⟩ : ∃ j_ : Int, (wrap64 ((((rd_T59 x1_1 (ji14)).f1).size : Int) - t151)) = j_ := ⟨_, rfl⟩
       replace H : (if 0 ≤ (ji29) then (if (ji29) ≤ (((rd_T59 x1_1 (ji14)).f1).size : Int) then (if (((rd_T59 x1_1 x5_1).f1).extract ((ji26) : Int).toNat ((rd_T59 x1_1 x5_1).f1).size).size + (((rd_T59 x1_1 x5_1).f1).extract 0 ((ji26) : Int).toNat).size ≤ 9223372036854775807 then (if (((rd_T59 x1_1 x5_1).f1).extract ((ji26) : Int).toNat ((rd_T59 x1_1 x5_1).f1).size).size + ((rd_T59 x1_1 (ji19)).f1).size ≤ 9223372036854775807 then (diffmatchpatch_DiffMatchPatch_DiffCleanupSemanticLossless.j2 kj3 x1_1 x5_1 (((rd_T59 x1_1 (ji14)).f1).extract 0 ((ji29) : Int).toNat) ((((rd_T59 x1_1 x5_1).f1).extract ((ji26) : Int).toNat ((rd_T59 x1_1 x5_1).f1).size) ++ (((rd_T59 x1_1 x5_1).f1).extract 0 ((ji26) : Int).toNat)) ((((rd_T59 x1_1 x5_1).f1).extract ((ji26) : Int).toNat ((rd_T59 x1_1 x5_1).f1).size) ++ ((rd_T59 x1_1 (ji19)).f1))) else (none)) else (none)) else (none)) else (none)) = some r := by first | (rw [hji29] at H; exact H) | (simp only [hji29] at H ⊢; exact H)
       have hji29w : (IntKind.i64.wrap ((((rd_T59 x1_1 (ji14)).f1).size : Int) - t151)) = ji29 := (i64_w _).trans hji29
       by_cases c30 : 0 ≤ (ji29)
       case neg =>
        rw [if_neg c30] at H
        exact absurd H (by simp)
       rw [if_pos c30] at H
       have c30b0 := eq_true c30
       have c30b1 : decide (0 ≤ (ji29)) = true := decide_eq_true c30
       clear c30
       by_cases c31 : (ji29) ≤ (((rd_T59 x1_1 (ji14)).f1).size : Int)
       case neg =>
        rw [if_neg c31] at H
        exact absurd H (by simp)
       rw [if_pos c31] at H
       have c31b0 := eq_true c31
       have c31b1 : decide ((ji29) ≤ (((rd_T59 x1_1 (ji14)).f1).size : Int)) = true := decide_eq_true c31
       clear c31
       have c32b0 := eq_true (of_decide_eq_true (by first | (with_reducible assumption) | assumption) : 0 ≤ (ji26))
       have c33b0 := eq_true (of_decide_eq_true (by first | (with_reducible assumption) | assumption) : (ji26) ≤ (((rd_T59 x1_1 x5_1).f1).size : Int))
       by_cases c34 : (((rd_T59 x1_1 x5_1).f1).extract ((ji26) : Int).toNat ((rd_T59 x1_1 x5_1).f1).size).size + (((rd_T59 x1_1 x5_1).f1).extract 0 ((ji26) : Int).toNat).size ≤ 9223372036854775807
       case neg =>
        rw [if_neg c34] at H
        exact absurd H (by simp)
       rw [if_pos c34] at H
       have c34b0 := eq_true c34
       have c34b1 : decide ((((rd_T59 x1_1 x5_1).f1).extract ((ji26) : Int).toNat ((rd_T59 x1_1 x5_1).f1).size).size + (((rd_T59 x1_1 x5_1).f1).extract 0 ((ji26) : Int).toNat).size ≤ 9223372036854775807) = true := decide_eq_true c34
       try have c34b2 : (9223372036854775807 < (((rd_T59 x1_1 x5_1).f1).extract ((ji26) : Int).toNat ((rd_T59 x1_1 x5_1).f1).size).size + (((rd_T59 x1_1 x5_1).f1).extract 0 ((ji26) : Int).toNat).size) = False := eq_false (Nat.not_lt.2 c34)
       (try (have c34b4 := c34b2; simp only [ByteArray.size_append] at c34b4))
       by_cases c35 : (((rd_T59 x1_1 x5_1).f1).extract ((ji26) : Int).toNat ((rd_T59 x1_1 x5_1).f1).size).size + ((rd_T59 x1_1 (ji19)).f1).size ≤ 9223372036854775807
       case neg =>
        rw [if_neg c35] at H
        exact absurd H (by simp)
       rw [if_pos c35] at H
       have c35b0 := eq_true c35
       have c35b1 : decide ((((rd_T59 x1_1 x5_1).f1).extract ((ji26) : Int).toNat ((rd_T59 x1_1 x5_1).f1).size).size + ((rd_T59 x1_1 (ji19)).f1).size ≤ 9223372036854775807) = true := decide_eq_true c35
       try have c35b2 : (9223372036854775807 < (((rd_T59 x1_1 x5_1).f1).extract ((ji26) : Int).toNat ((rd_T59 x1_1 x5_1).f1).size).size + ((rd_T59 x1_1 (ji19)).f1).size) = False := eq_false (Nat.not_lt.2 c35)
       (try (have c35b4 := c35b2; simp only [ByteArray.size_append] at c35b4))
       have H' := Aside0.mk H
       clear H
       go_wp2
       go_meet
       case rel => exact ⟨_, (((rd_T59 x1_1 (ji14)).f1).extract 0 ((ji29) : Int).toNat), ((((rd_T59 x1_1 x5_1).f1).extract ((ji26) : Int).toNat ((rd_T59 x1_1 x5_1).f1).size) ++ (((rd_T59 x1_1 x5_1).f1).extract 0 ((ji26) : Int).toNat)), ((((rd_T59 x1_1 x5_1).f1).extract ((ji26) : Int).toNat ((rd_T59 x1_1 x5_1).f1).size) ++ ((rd_T59 x1_1 (ji19)).f1)), (by first | rfl | (simp; done) | (simp only [← hji14, ← hji29] <;> (first | rfl | simp)) | (simp [*]; done)), (by first | rfl | (simp; done) | (simp only [← hji26] <;> (first | rfl | simp)) | (simp [*]; done)), (by first | rfl | (simp; done) | (simp only [← hji19, ← hji26] <;> (first | rfl | simp)) | (simp [*]; done)), H', ⟨by have := HK1.out; have := HJ3.out; first | omega | exact Nat.le_refl _⟩, ⟨by (with_reducible repeat (first | apply Kd.R_alloc | apply Kd.R_drewN | apply Kd.R_drew)); exact HO_1.out⟩, ⟨by repeat (first | (with_reducible first | exact HK.out | apply Kept.alloc | apply Kept.drewN | apply Kept.drew) | exact HK.out)⟩, ⟨by repeat (first | (with_reducible first | exact HB.out | apply below_alloc | apply pw_below_drewN | apply below_drew1) | exact HB.out)⟩⟩
      case rest =>
       clear HC23
       try clear c1
       try clear p1
       try clear q1
       try clear hx1
       try clear c2
       try clear p2
       try clear c3
       try clear c3b0
       try clear c4
       try clear p6
       try clear c7
       try clear c7b0
       try clear c7b1
       try clear c8
       try clear c8b0
       try clear c9
       try clear c9b0
       try clear c9b1
       try clear c11
       try clear c11b0
       try clear c12
       try clear c12b0
       try clear c13
       try clear p14
       try clear q14
       try clear hx14
       try clear c15
       try clear c15b0
       try clear p15
       try clear q15
       try clear hx15
       try clear c16
       try clear c16b0
       try clear c17
       try clear c17b0
       try clear c18
       try clear c18b0
       try clear c20
       try clear c20b0
       try clear c21
       try clear c21b0
       try clear c25
       try clear c25b0
       try clear c25b1
       try clear c27
       try clear c27b0
       try clear c27b1
       try clear c28
       try clear c28b0
       try clear c28b1
       try clear c30
       try clear c30b0
       try clear c30b1
       try clear c31
       try clear c31b0
       try clear c31b1
       try clear c32
       try clear c32b0
       try clear c33
       try clear c33b0
       try clear c34
       try clear c34b0
       try clear c34b1
       try clear c34b2
       try clear c35
       try clear c35b0
       try clear c35b1
       try clear c35b2
       try clear hx146_0
       try clear hx146_1
       try clear hx147_0
       try clear hx147_1
       try clear hx148_0
       try clear hx148_1
       try clear hx149_0
       try clear hx149_1
       try clear hx150_0
       try clear hx150_1
       try clear p1
       try clear p146
       try clear p147
       try clear p148
       try clear p149
       try clear p150
       try clear p2
       try clear p6
       try clear q1
       try clear q146
       try clear q147
       try clear q148
       try clear q149
       try clear q150
       obtain ⟨kq, x6_22, x7_22, x8_22, rfl, rfl, rfl, HA, HJ22, HO_1, HK, HB⟩ := hcut
       cases kq with
       | zero => exact absurd HA.out (by simp [diffmatchpatch_DiffMatchPatch_DiffCleanupSemanticLossless.j2])
       | succ kj22 =>
        have H := HA.out
        clear HA
        simp only [diffmatchpatch_DiffMatchPatch_DiffCleanupSemanticLossless.j2] at H
        replace H := Option.bind_eq_some_iff.mp H
        obtain ⟨t152, A360, H⟩ := H
        replace H : ((diffmatchpatch_diffCleanupSemanticScore.f kj22 x7_22 x8_22).bind fun t153 => (diffmatchpatch_DiffMatchPatch_DiffCleanupSemanticLossless.l1 kj22 x1_1 x5_1 x6_22 x7_22 x8_22 x6_22 x7_22 x8_22 (wrap64 (t152 + t153)))) = some r := H
        have A36 := Aside0.mk A360
        clear A360
        replace H := Option.bind_eq_some_iff.mp H
        obtain ⟨t153, A370, H⟩ := H
        replace H : (diffmatchpatch_DiffMatchPatch_DiffCleanupSemanticLossless.l1 kj22 x1_1 x5_1 x6_22 x7_22 x8_22 x6_22 x7_22 x8_22 (wrap64 (t152 + t153))) = some r := H
        have A37 := Aside0.mk A370
        clear A370
        have HC38 := Aside0.mk H
        clear H
        go_upto_block 2 with (first | ((with_reducible refine gate_callee (f := 47) rfl ?_); refine goesL_ (some 90) rfl rfl Tryd.func47 (by kernel_rfl) rfl #[.string x6_22, .string x7_22] rfl (by (try simp only [List.map_toArray, List.map_cons, List.map_nil]); first | done | rfl | (simp only [List.length_drop, List.length_take]; rfl)) ?_; (with_reducible refine (diffmatchpatch_diffCleanupSemanticScore.calls kj22 x6_22 x7_22 t152 _ ?side1 A36.out).mono ?_); (case side1 => exact Glob.below hG_ (by repeat (first | (with_reducible first | exact HB.out | apply below_alloc | apply pw_below_drewN | apply below_drew1) | exact HB.out))); rintro e w39 ⟨rfl, hb⟩; refine ⟨_, rfl, ?_⟩; have n0_ := Aside0.mk (Kd.R_below (by (with_reducible repeat (first | apply Kd.R_alloc | apply Kd.R_drewN | apply Kd.R_drew)); exact HO_1.out) hb); have n1_ := Aside0.mk (Kept.below (S := (fun k_ => P1_ k_)) (by repeat (first | (with_reducible first | exact HK.out | apply Kept.alloc | apply Kept.drewN | apply Kept.drew) | exact HK.out)) hb); have n2_ := Aside0.mk (below_step (by repeat (first | (with_reducible first | exact HB.out | apply below_alloc | apply pw_below_drewN | apply below_drew1) | exact HB.out)) hb); clear HO_1; clear HK; clear HB; have HO_1 := n0_; have HK := n1_; have HB := n2_; clear n0_ n1_ n2_; (try clear hb); (try clear hb2); (try clear hk); (try clear hi)) | ((with_reducible refine gate_callee (f := 47) rfl ?_); refine goesL_ (some 93) rfl rfl Tryd.func47 (by kernel_rfl) rfl #[.string x7_22, .string x8_22] rfl (by (try simp only [List.map_toArray, List.map_cons, List.map_nil]); first | done | rfl | (simp only [List.length_drop, List.length_take]; rfl)) ?_; (with_reducible refine (diffmatchpatch_diffCleanupSemanticScore.calls kj22 x7_22 x8_22 t153 _ ?side1 A37.out).mono ?_); (case side1 => exact Glob.below hG_ (by repeat (first | (with_reducible first | exact HB.out | apply below_alloc | apply pw_below_drewN | apply below_drew1) | exact HB.out))); rintro e w40 ⟨rfl, hb⟩; refine ⟨_, rfl, ?_⟩; have n0_ := Aside0.mk (Kd.R_below (by (with_reducible repeat (first | apply Kd.R_alloc | apply Kd.R_drewN | apply Kd.R_drew)); exact HO_1.out) hb); have n1_ := Aside0.mk (Kept.below (S := (fun k_ => P1_ k_)) (by repeat (first | (with_reducible first | exact HK.out | apply Kept.alloc | apply Kept.drewN | apply Kept.drew) | exact HK.out)) hb); have n2_ := Aside0.mk (below_step (by repeat (first | (with_reducible first | exact HB.out | apply below_alloc | apply pw_below_drewN | apply below_drew1) | exact HB.out)) hb); clear HO_1; clear HK; clear HB; have HO_1 := n0_; have HK := n1_; have HB := n2_; clear n0_ n1_ n2_; (try clear hb); (try clear hb2); (try clear hk); (try clear hi)))
        (try simp only [Act.put, List.setIfInBounds_toArray, List.set_cons_zero, List.set_cons_succ])
        go_cut [11, 12, 13] (fun v11 v12 v13 wc => ∃ (kq : Nat) (x11_37 : ByteArray) (x12_37 : ByteArray) (x13_37 : ByteArray), v11 = .string x11_37 ∧ v12 = .string x12_37 ∧ v13 = .string x13_37 ∧ Aside0 (diffmatchpatch_DiffMatchPatch_DiffCleanupSemanticLossless.j6 kq x1_1 x5_1 x11_37 x12_37 x13_37 = some r) ∧ Aside0 (kq ≤ kj22) ∧ Aside0 (Kd.R k59 59 wc w0.heap.size (fun k_ => (P1_ k_ ∨ w.heap.size ≤ k_)) (.slice (some ad148) x1_1.length co5) x1_1) ∧ Aside0 (Kept w wc (fun k_ => P1_ k_)) ∧ Aside0 (Below w0.heap.size w0 wc))
        case first =>
         have H := HC38.out
         clear HC38
         have H' := Aside0.mk H
         clear H
         go_wp2
         go_loopg [6, 7, 8, 11, 12, 13, 14] kj22 (fun kq v6 v7 v8 v11 v12 v13 v14 w' => ∃ (x6_4 : ByteArray) (x7_4 : ByteArray) (x8_4 : ByteArray) (x11_4 : ByteArray) (x12_4 : ByteArray) (x13_4 : ByteArray) (x14_4 : Int), v6 = .string x6_4 ∧ v7 = .string x7_4 ∧ v8 = .string x8_4 ∧ v11 = .string x11_4 ∧ v12 = .string x12_4 ∧ v13 = .string x13_4 ∧ v14 = .int .i64 x14_4 ∧ Aside0 (diffmatchpatch_DiffMatchPatch_DiffCleanupSemanticLossless.l1 kq x1_1 x5_1 x6_4 x7_4 x8_4 x11_4 x12_4 x13_4 x14_4 = some r) ∧ Aside0 (kq ≤ kj22) ∧ Aside0 (Kd.R k59 59 w' w0.heap.size (fun k_ => (P1_ k_ ∨ w.heap.size ≤ k_)) (.slice (some ad148) x1_1.length co5) x1_1) ∧ Aside0 (Kept w w' (fun k_ => P1_ k_)) ∧ Aside0 (Below w0.heap.size w0 w'))
         case atStart => exact ⟨(x6_22), (x7_22), (x8_22), (x6_22), (x7_22), (x8_22), (wrap64 (t152 + t153)), (by first | rfl | (simp; done) | (simp [*]; done)), (by first | rfl | (simp; done) | (simp [*]; done)), (by first | rfl | (simp; done) | (simp [*]; done)), (by first | rfl | (simp; done) | (simp [*]; done)), (by first | rfl | (simp; done) | (simp [*]; done)), (by first | rfl | (simp; done) | (simp [*]; done)), (by first | rfl | (simp; done) | (simp [*]; done)), H', ⟨Nat.le_refl _⟩, ⟨by (with_reducible repeat (first | apply Kd.R_alloc | apply Kd.R_drewN | apply Kd.R_drew)); exact HO_1.out⟩, ⟨by repeat (first | (with_reducible first | exact HK.out | apply Kept.alloc | apply Kept.drewN | apply Kept.drew) | exact HK.out)⟩, ⟨by repeat (first | (with_reducible first | exact HB.out | apply below_alloc | apply pw_below_drewN | apply below_drew1) | exact HB.out)⟩⟩
         case round => as_aux_lemma =>
           clear H'
           try clear c1
           try clear p1
           try clear q1
           try clear hx1
           try clear c2
           try clear p2
           try clear c3
           try clear c3b0
           try clear c4
           try clear p6
           try clear c7
           try clear c7b0
           try clear c7b1
           try clear c8
           try clear c8b0
           try clear c9
           try clear c9b0
           try clear c9b1
           try clear c11
           try clear c11b0
           try clear c12
           try clear c12b0
           try clear c13
           try clear p14
           try clear q14
           try clear hx14
           try clear c15
           try clear c15b0
           try clear p15
           try clear q15
           try clear hx15
           try clear c16
           try clear c16b0
           try clear c17
           try clear c17b0
           try clear c18
           try clear c18b0
           try clear c20
           try clear c20b0
           try clear c21
           try clear c21b0
           try clear c25
           try clear c25b0
           try clear c25b1
           try clear c27
           try clear c27b0
           try clear c27b1
           try clear c28
           try clear c28b0
           try clear c28b1
           try clear c30
           try clear c30b0
           try clear c30b1
           try clear c31
           try clear c31b0
           try clear c31b1
           try clear c32
           try clear c32b0
           try clear c33
           try clear c33b0
           try clear c34
           try clear c34b0
           try clear c34b1
           try clear c34b2
           try clear c35
           try clear c35b0
           try clear c35b1
           try clear c35b2
           try clear c36
           try clear hx146_0
           try clear hx146_1
           try clear hx147_0
           try clear hx147_1
           try clear hx148_0
           try clear hx148_1
           try clear hx149_0
           try clear hx149_1
           try clear hx150_0
           try clear hx150_1
           try clear p1
           try clear p14
           try clear p146
           try clear p147
           try clear p148
           try clear p149
           try clear p15
           try clear p150
           try clear p2
           try clear p6
           try clear q1
           try clear q14
           try clear q146
           try clear q147
           try clear q148
           try clear q149
           try clear q15
           try clear q150
           obtain ⟨x6_4, x7_4, x8_4, x11_4, x12_4, x13_4, x14_4, rfl, rfl, rfl, rfl, rfl, rfl, rfl, HA, HK4, HO_1, HK, HB⟩ := hrel
           cases gk with
           | zero => exact absurd HA.out (by simp [diffmatchpatch_DiffMatchPatch_DiffCleanupSemanticLossless.l1])
           | succ k4 =>
            have H := HA.out
            clear HA
            simp only [diffmatchpatch_DiffMatchPatch_DiffCleanupSemanticLossless.l1] at H
            have HC41 := Aside0.mk H
            clear H
            go_upto_region 17 with (fail)
            go_cut [102] (fun v102 wc => ∃ (kq : Nat) (x102_40 : Bool), v102 = .bool x102_40 ∧ Aside0 (diffmatchpatch_DiffMatchPatch_DiffCleanupSemanticLossless.j4 kq x1_1 x5_1 x6_4 x7_4 x8_4 x11_4 x12_4 x13_4 x14_4 x102_40 = some r) ∧ Aside0 (kq ≤ k4) ∧ Aside0 (Kd.R k59 59 wc w0.heap.size (fun k_ => (P1_ k_ ∨ w.heap.size ≤ k_)) (.slice (some ad148) x1_1.length co5) x1_1) ∧ Aside0 (Kept w wc (fun k_ => P1_ k_)) ∧ Aside0 (Below w0.heap.size w0 wc))
            case first =>
             have H := HC41.out
             clear HC41
             by_cases c42 : (x7_4.size : Int) = 0
             ·rw [if_pos c42] at H
              have c42b0 : ((x7_4.size : Int) == 0) = true := beq_iff_eq.mpr c42
              have c42b1 : ((x7_4.size : Int) != 0) = false := bne_eq_false_iff_eq.mpr c42
              clear c42
              (first | rw [c42b0] | (simp only [i64_w, i32_w]; rw [c42b0]) | rw [c42b1] | skip)
              have H' := Aside0.mk H
              clear H
              go_wp2
              go_meet
              case rel => exact ⟨_, (false), (by first | rfl | (simp; done) | (simp [*]; done)), H', ⟨by have := HK1.out; have := HJ3.out; have := HJ22.out; have := HK4.out; first | omega | exact Nat.le_refl _⟩, ⟨by (with_reducible repeat (first | apply Kd.R_alloc | apply Kd.R_drewN | apply Kd.R_drew)); exact HO_1.out⟩, ⟨by repeat (first | (with_reducible first | exact HK.out | apply Kept.alloc | apply Kept.drewN | apply Kept.drew) | exact HK.out)⟩, ⟨by repeat (first | (with_reducible first | exact HB.out | apply below_alloc | apply pw_below_drewN | apply below_drew1) | exact HB.out)⟩⟩
             rw [if_neg c42] at H
             have c42b0 : ((x7_4.size : Int) == 0) = false := beq_eq_false_iff_ne.mpr c42
             have c42b1 : ((x7_4.size : Int) != 0) = true := bne_iff_ne.mpr c42
             (first | rw [c42b0] | (simp only [i64_w, i32_w]; rw [c42b0]) | rw [c42b1] | skip)
             have H' := Aside0.mk H
             clear H
             go_wp2
             go_meet
             case rel => exact ⟨_, (((x8_4.size : Int) != 0)), (by first | rfl | (simp; done) | (simp [*]; done)), H', ⟨by have := HK1.out; have := HJ3.out; have := HJ22.out; have := HK4.out; first | omega | exact Nat.le_refl _⟩, ⟨by (with_reducible repeat (first | apply Kd.R_alloc | apply Kd.R_drewN | apply Kd.R_drew)); exact HO_1.out⟩, ⟨by repeat (first | (with_reducible first | exact HK.out | apply Kept.alloc | apply Kept.drewN | apply Kept.drew) | exact HK.out)⟩, ⟨by repeat (first | (with_reducible first | exact HB.out | apply below_alloc | apply pw_below_drewN | apply below_drew1) | exact HB.out)⟩⟩
            case rest =>
             clear HC41
             try clear c1
             try clear p1
             try clear q1
             try clear hx1
             try clear c2
             try clear p2
             try clear c3
             try clear c3b0
             try clear c4
             try clear p6
             try clear c7
             try clear c7b0
             try clear c7b1
             try clear c8
             try clear c8b0
             try clear c9
             try clear c9b0
             try clear c9b1
             try clear c11
             try clear c11b0
             try clear c12
             try clear c12b0
             try clear c13
             try clear p14
             try clear q14
             try clear hx14
             try clear c15
             try clear c15b0
             try clear p15
             try clear q15
             try clear hx15
             try clear c16
             try clear c16b0
             try clear c17
             try clear c17b0
             try clear c18
             try clear c18b0
             try clear c20
             try clear c20b0
             try clear c21
             try clear c21b0
             try clear c25
             try clear c25b0
             try clear c25b1
             try clear c27
             try clear c27b0
             try clear c27b1
             try clear c28
             try clear c28b0
             try clear c28b1
             try clear c30
             try clear c30b0
             try clear c30b1
             try clear c31
             try clear c31b0
             try clear c31b1
             try clear c32
             try clear c32b0
             try clear c33
             try clear c33b0
             try clear c34
             try clear c34b0
             try clear c34b1
             try clear c34b2
             try clear c35
             try clear c35b0
             try clear c35b1
             try clear c35b2
             try clear c36
             try clear c42
             try clear c42b0
             try clear c42b1
             try clear hx146_0
             try clear hx146_1
             try clear hx147_0
             try clear hx147_1
             try clear hx148_0
             try clear hx148_1
             try clear hx149_0
             try clear hx149_1
             try clear hx150_0
             try clear hx150_1
             try clear p1
             try clear p14
             try clear p146
             try clear p147
             try clear p148
             try clear p149
             try clear p15
             try clear p150
             try clear p2
             try clear p6
             try clear q1
             try clear q14
             try clear q146
             try clear q147
             try clear q148
             try clear q149
             try clear q15
             try clear q150
             obtain ⟨kq, x102_40, rfl, HA, HJ40, HO_1, HK, HB⟩ := hcut
             cases kq with
             | zero => exact absurd HA.out (by simp [diffmatchpatch_DiffMatchPatch_DiffCleanupSemanticLossless.j4])
             | succ kj40 =>
              have H := HA.out
              clear HA
              simp only [diffmatchpatch_DiffMatchPatch_DiffCleanupSemanticLossless.j4] at H
              by_cases c43 : x102_40 = true
              case neg =>
               replace c43 := Bool.eq_false_iff.mpr c43
               subst c43
               have H1 : (diffmatchpatch_DiffMatchPatch_DiffCleanupSemanticLossless.j6 kj40 x1_1 x5_1 x11_4 x12_4 x13_4) = some r := by rw [if_neg (show ¬ (false = true) by decide)] at H; exact H
               clear H
               have H := H1
               clear H1
               have H' := Aside0.mk H
               clear H
               go_wp2
               go_meet
               case rel => exact ⟨_, (x11_4), (x12_4), (x13_4), (by first | rfl | (simp; done) | (simp [*]; done)), (by first | rfl | (simp; done) | (simp [*]; done)), (by first | rfl | (simp; done) | (simp [*]; done)), H', ⟨by have := HK1.out; have := HJ3.out; have := HJ22.out; have := HK4.out; have := HJ40.out; first | omega | exact Nat.le_refl _⟩, ⟨by (with_reducible repeat (first | apply Kd.R_alloc | apply Kd.R_drewN | apply Kd.R_drew)); exact HO_1.out⟩, ⟨by repeat (first | (with_reducible first | exact HK.out | apply Kept.alloc | apply Kept.drewN | apply Kept.drew) | exact HK.out)⟩, ⟨by repeat (first | (with_reducible first | exact HB.out | apply below_alloc | apply pw_below_drewN | apply below_drew1) | exact HB.out)⟩⟩
              subst c43
              have H1 : ((utf8_DecodeRuneInString.f x7_4).bind fun bt154 => (if (x8_4.size : Int) < bt154.2 then (diffmatchpatch_DiffMatchPatch_DiffCleanupSemanticLossless.j5 kj40 x1_1 x5_1 x6_4 x7_4 x8_4 x11_4 x12_4 x13_4 x14_4 bt154.2 true) else (if 0 ≤ bt154.2 then (if bt154.2 ≤ (x7_4.size : Int) then (if bt154.2 ≤ (x8_4.size : Int) then (diffmatchpatch_DiffMatchPatch_DiffCleanupSemanticLossless.j5 kj40 x1_1 x5_1 x6_4 x7_4 x8_4 x11_4 x12_4 x13_4 x14_4 bt154.2 ((x7_4.extract 0 (bt154.2 : Int).toNat).toList != (x8_4.extract 0 (bt154.2 : Int).toNat).toList)) else (none)) else (none)) else (none)))) = some r := by rw [if_pos rfl] at H; exact H
              clear H
              have H := H1
              clear H1
              replace H := Option.bind_eq_some_iff.mp H
              obtain ⟨⟨t154, t155⟩, A440, H⟩ := H
              replace H : (if (x8_4.size : Int) < t155 then (diffmatchpatch_DiffMatchPatch_DiffCleanupSemanticLossless.j5 kj40 x1_1 x5_1 x6_4 x7_4 x8_4 x11_4 x12_4 x13_4 x14_4 t155 true) else (if 0 ≤ t155 then (if t155 ≤ (x7_4.size : Int) then (if t155 ≤ (x8_4.size : Int) then (diffmatchpatch_DiffMatchPatch_DiffCleanupSemanticLossless.j5 kj40 x1_1 x5_1 x6_4 x7_4 x8_4 x11_4 x12_4 x13_4 x14_4 t155 ((x7_4.extract 0 (t155 : Int).toNat).toList != (x8_4.extract 0 (t155 : Int).toNat).toList)) else (none)) else (none)) else (none))) = some r := H
              have A44 := Aside0.mk A440
              clear A440
              have HC45 := Aside0.mk H
              clear H
              go_upto_region 19 with (first | ((with_reducible refine gate_callee (f := 48) rfl ?_); refine goesL_ (some 105) rfl rfl Tryd.func48 (by kernel_rfl) rfl #[.string x7_4] rfl (by (try simp only [List.map_toArray, List.map_cons, List.map_nil]); first | done | rfl | (simp only [List.length_drop, List.length_take]; rfl)) ?_; (with_reducible refine (utf8_DecodeRuneInString.calls x7_4 t154 t155 _ ?side1 A44.out).mono ?_); (case side1 => exact Glob.below hG_ (by repeat (first | (with_reducible first | exact HB.out | apply below_alloc | apply pw_below_drewN | apply below_drew1) | exact HB.out))); rintro e w46 ⟨rfl, hb⟩; refine ⟨_, rfl, ?_⟩; have n0_ := Aside0.mk (Kd.R_below (by (with_reducible repeat (first | apply Kd.R_alloc | apply Kd.R_drewN | apply Kd.R_drew)); exact HO_1.out) hb); have n1_ := Aside0.mk (Kept.below (S := (fun k_ => P1_ k_)) (by repeat (first | (with_reducible first | exact HK.out | apply Kept.alloc | apply Kept.drewN | apply Kept.drew) | exact HK.out)) hb); have n2_ := Aside0.mk (below_step (by repeat (first | (with_reducible first | exact HB.out | apply below_alloc | apply pw_below_drewN | apply below_drew1) | exact HB.out)) hb); clear HO_1; clear HK; clear HB; have HO_1 := n0_; have HK := n1_; have HB := n2_; clear n0_ n1_ n2_; (try clear hb); (try clear hb2); (try clear hk); (try clear hi)))
              (try simp only [Act.put, List.setIfInBounds_toArray, List.set_cons_zero, List.set_cons_succ])
              go_cut [120] (fun v120 wc => ∃ (kq : Nat) (x120_44 : Bool), v120 = .bool x120_44 ∧ Aside0 (diffmatchpatch_DiffMatchPatch_DiffCleanupSemanticLossless.j5 kq x1_1 x5_1 x6_4 x7_4 x8_4 x11_4 x12_4 x13_4 x14_4 t155 x120_44 = some r) ∧ Aside0 (kq ≤ kj40) ∧ Aside0 (Kd.R k59 59 wc w0.heap.size (fun k_ => (P1_ k_ ∨ w.heap.size ≤ k_)) (.slice (some ad148) x1_1.length co5) x1_1) ∧ Aside0 (Kept w wc (fun k_ => P1_ k_)) ∧ Aside0 (Below w0.heap.size w0 wc))
              case first =>
               have H := HC45.out
               clear HC45
               by_cases c47 : (x8_4.size : Int) < t155
               ·rw [if_pos c47] at H
                have c47b0 : decide ((x8_4.size : Int) < t155) = true := decide_eq_true c47
                clear c47
                (first | rw [c47b0] | (simp only [i64_w, i32_w]; rw [c47b0]) | rw [c47b1] | skip)
                have H' := Aside0.mk H
                clear H
                try go_wp2
                have n0_ := Aside0.mk (Kd.R_drew HO_1.out)
                have n1_ := Aside0.mk (Kept.drew HK.out)
                have n2_ := Aside0.mk (below_drew1 HB.out)
                clear HO_1
                clear HK
                clear HB
                have HO_1 := n0_
                have HK := n1_
                have HB := n2_
                clear n0_ n1_ n2_
                refine start_ (n := 13) (S := fun w' => True) (ds := []) #[false, false, false, false, false, false, false, false, false, false, false, false, false] (by kernel_rfl) rfl rfl trivial (fun hHeld => ?_); refine with_tabW diffmatchpatch_DiffMatchPatch_DiffCleanupSemanticLossless.tab19 diffmatchpatch_DiffMatchPatch_DiffCleanupSemanticLossless.bits19 (fun HT_ HW_ => ?_)
                generalize w46.drew = w48 at HO_1 HK HB hHeld ⊢
                refine pure_ (i := 0) (N := some 108) (v := ?_) (a' := ?_) (tf 1 13) rfl rfl (any_of HT_.out (by kernel_rfl)) (fun _ _ _ h => h) (Or.inl ⟨by rfl, ?_⟩) ?_ ?_
                rotate_left
                ·(intro w'; go_simp; with_reducible rfl)
                rotate_left
                ·(simp only [Act.put, List.setIfInBounds_toArray, List.set_cons_zero, List.set_cons_succ, i64_w, i32_w]; rfl)
                refine pure_ (i := 1) (N := some 109) (v := ?_) (a' := ?_) (tf 2 13) rfl rfl (any_of HT_.out (by kernel_rfl)) (fun _ _ _ h => h) (Or.inl ⟨by rfl, ?_⟩) ?_ ?_
                rotate_left
                ·(intro w'; go_simp; with_reducible rfl)
                rotate_left
                ·(simp only [Act.put, List.setIfInBounds_toArray, List.set_cons_zero, List.set_cons_succ, i64_w, i32_w]; rfl)
                refine pure_ (i := 2) (N := some 110) (v := ?_) (a' := ?_) (tf 3 13) rfl rfl (any_of HT_.out (by kernel_rfl)) (fun _ _ _ h => h) (Or.inl ⟨by rfl, ?_⟩) ?_ ?_
                rotate_left
                ·(intro w'; go_simp; with_reducible rfl)
                rotate_left
                ·(simp only [Act.put, List.setIfInBounds_toArray, List.set_cons_zero, List.set_cons_succ, i64_w, i32_w]; rfl)
                refine pure_ (i := 3) (N := some 111) (v := ?_) (a' := ?_) (tf 4 13) rfl rfl (any_of HT_.out (by kernel_rfl)) (fun _ _ _ h => h) (Or.inl ⟨by rfl, ?_⟩) ?_ ?_
                rotate_left
                ·(intro w'; go_simp; with_reducible rfl)
                rotate_left
                ·(simp only [Act.put, List.setIfInBounds_toArray, List.set_cons_zero, List.set_cons_succ, i64_w, i32_w]; rfl)
                refine pure_ (i := 4) (N := some 112) (v := ?_) (a' := ?_) (tf 5 13) rfl rfl (any_of HT_.out (by kernel_rfl)) (fun _ _ _ h => h) (Or.inl ⟨by rfl, ?_⟩) ?_ ?_
                rotate_left
                ·(intro w'; go_simp; with_reducible rfl)
                rotate_left
                ·(simp only [Act.put, List.setIfInBounds_toArray, List.set_cons_zero, List.set_cons_succ, i64_w, i32_w]; rfl)
                refine pure_ (i := 5) (N := some 113) (v := undef) (a' := ?_) #[true, true, true, true, true, true, false, false, false, false, false, false, false] rfl rfl (any_of HT_.out (by kernel_rfl)) (fun _ _ _ h => h) (Or.inr ⟨by rfl, rfl⟩) ?_ ?_
                rotate_left
                ·simp only [Act.put, List.setIfInBounds_toArray, List.set_cons_zero, List.set_cons_succ, i64_w, i32_w]
                 rfl
                refine pure_ (i := 6) (N := some 114) (v := undef) (a' := ?_) #[true, true, true, true, true, true, true, false, false, false, false, false, false] rfl rfl (any_of HT_.out (by kernel_rfl)) (fun _ _ _ h => h) (Or.inr ⟨by rfl, rfl⟩) ?_ ?_
                rotate_left
                ·simp only [Act.put, List.setIfInBounds_toArray, List.set_cons_zero, List.set_cons_succ, i64_w, i32_w]
                 rfl
                refine pure_ (i := 7) (N := some 115) (v := undef) (a' := ?_) #[true, true, true, true, true, true, true, true, false, false, false, false, false] rfl rfl (any_of HT_.out (by kernel_rfl)) (fun _ _ _ h => h) (Or.inr ⟨by rfl, rfl⟩) ?_ ?_
                rotate_left
                ·simp only [Act.put, List.setIfInBounds_toArray, List.set_cons_zero, List.set_cons_succ, i64_w, i32_w]
                 rfl
                refine pure_ (i := 8) (N := some 116) (v := undef) (a' := ?_) #[true, true, true, true, true, true, true, true, true, false, false, false, false] rfl rfl (any_of HT_.out (by kernel_rfl)) (fun _ _ _ h => h) (Or.inr ⟨by rfl, rfl⟩) ?_ ?_
                rotate_left
                ·simp only [Act.put, List.setIfInBounds_toArray, List.set_cons_zero, List.set_cons_succ, i64_w, i32_w]
                 rfl
                refine pure_ (i := 9) (N := some 117) (v := undef) (a' := ?_) #[true, true, true, true, true, true, true, true, true, true, false, false, false] rfl rfl (any_of HT_.out (by kernel_rfl)) (fun _ _ _ h => h) (Or.inr ⟨by rfl, rfl⟩) ?_ ?_
                rotate_left
                ·simp only [Act.put, List.setIfInBounds_toArray, List.set_cons_zero, List.set_cons_succ, i64_w, i32_w]
                 rfl
                refine pure_ (i := 10) (N := some 118) (v := undef) (a' := ?_) #[true, true, true, true, true, true, true, true, true, true, true, false, false] rfl rfl (any_of HT_.out (by kernel_rfl)) (fun _ _ _ h => h) (Or.inr ⟨by rfl, rfl⟩) ?_ ?_
                rotate_left
                ·simp only [Act.put, List.setIfInBounds_toArray, List.set_cons_zero, List.set_cons_succ, i64_w, i32_w]
                 rfl
                refine pure_ (i := 11) (N := some 119) (v := undef) (a' := ?_) #[true, true, true, true, true, true, true, true, true, true, true, true, false] rfl rfl (any_of HT_.out (by kernel_rfl)) (fun _ _ _ h => h) (Or.inr ⟨by rfl, rfl⟩) ?_ ?_
                rotate_left
                ·simp only [Act.put, List.setIfInBounds_toArray, List.set_cons_zero, List.set_cons_succ, i64_w, i32_w]
                 rfl
                refine pure_ (i := 12) (N := some 120) (v := ?_) (a' := ?_) (tf 13 13) rfl rfl (any_of HT_.out (by kernel_rfl)) (fun _ _ _ h => h) (Or.inl ⟨by rfl, ?_⟩) ?_ ?_
                rotate_left
                ·(intro w'; go_simp; with_reducible rfl)
                rotate_left
                ·(simp only [Act.put, List.setIfInBounds_toArray, List.set_cons_zero, List.set_cons_succ, i64_w, i32_w]; rfl)
                refine done_ (done_of HT_.out (by kernel_rfl)) ?_
                try go_wp2
                go_meet
                case rel => exact ⟨_, (true), (by first | rfl | (simp; done) | (simp [*]; done)), H', ⟨by have := HK1.out; have := HJ3.out; have := HJ22.out; have := HK4.out; have := HJ40.out; first | omega | exact Nat.le_refl _⟩, ⟨by (with_reducible repeat (first | apply Kd.R_alloc | apply Kd.R_drewN | apply Kd.R_drew)); exact HO_1.out⟩, ⟨by repeat (first | (with_reducible first | exact HK.out | apply Kept.alloc | apply Kept.drewN | apply Kept.drew) | exact HK.out)⟩, ⟨by repeat (first | (with_reducible first | exact HB.out | apply below_alloc | apply pw_below_drewN | apply below_drew1) | exact HB.out)⟩⟩
               rw [if_neg c47] at H
               have c47b0 : decide ((x8_4.size : Int) < t155) = false := decide_eq_false c47
               clear c47
               (first | rw [c47b0] | (simp only [i64_w, i32_w]; rw [c47b0]) | rw [c47b1] | skip)
               by_cases c49 : 0 ≤ t155
               case neg =>
                rw [if_neg c49] at H
                exact absurd H (by simp)
               rw [if_pos c49] at H
               have c49b0 := eq_true c49
               have c49b1 : decide (0 ≤ t155) = true := decide_eq_true c49
               clear c49
               by_cases c50 : t155 ≤ (x7_4.size : Int)
               case neg =>
                rw [if_neg c50] at H
                exact absurd H (by simp)
               rw [if_pos c50] at H
               have c50b0 := eq_true c50
               have c50b1 : decide (t155 ≤ (x7_4.size : Int)) = true := decide_eq_true c50
               clear c50
               have c51b0 := eq_true (of_decide_eq_true (by first | (with_reducible assumption) | assumption) : 0 ≤ t155)
               by_cases c52 : t155 ≤ (x8_4.size : Int)
               case neg =>
                rw [if_neg c52] at H
                exact absurd H (by simp)
               rw [if_pos c52] at H
               have c52b0 := eq_true c52
               have c52b1 : decide (t155 ≤ (x8_4.size : Int)) = true := decide_eq_true c52
               clear c52
               have H' := Aside0.mk H
               clear H
               try go_wp2
               have n0_ := Aside0.mk (Kd.R_drew HO_1.out)
               have n1_ := Aside0.mk (Kept.drew HK.out)
               have n2_ := Aside0.mk (below_drew1 HB.out)
               clear HO_1
               clear HK
               clear HB
               have HO_1 := n0_
               have HK := n1_
               have HB := n2_
               clear n0_ n1_ n2_
               refine start_ (n := 13) (S := fun w' => True) (ds := []) #[false, false, false, false, false, false, false, false, false, false, false, false, false] (by kernel_rfl) rfl rfl trivial (fun hHeld => ?_); refine with_tabW diffmatchpatch_DiffMatchPatch_DiffCleanupSemanticLossless.tab19 diffmatchpatch_DiffMatchPatch_DiffCleanupSemanticLossless.bits19 (fun HT_ HW_ => ?_)
               generalize w46.drew = w53 at HO_1 HK HB hHeld ⊢
               refine pure_ (i := 0) (N := some 108) (v := ?_) (a' := ?_) (tf 1 13) rfl rfl (any_of HT_.out (by kernel_rfl)) (fun _ _ _ h => h) (Or.inl ⟨by rfl, ?_⟩) ?_ ?_
               rotate_left
               ·(intro w'; go_simp; with_reducible rfl)
               rotate_left
               ·(simp only [Act.put, List.setIfInBounds_toArray, List.set_cons_zero, List.set_cons_succ, i64_w, i32_w]; rfl)
               refine pure_ (i := 1) (N := some 109) (v := ?_) (a' := ?_) (tf 2 13) rfl rfl (any_of HT_.out (by kernel_rfl)) (fun _ _ _ h => h) (Or.inl ⟨by rfl, ?_⟩) ?_ ?_
               rotate_left
               ·(intro w'; go_simp; with_reducible rfl)
               rotate_left
               ·(simp only [Act.put, List.setIfInBounds_toArray, List.set_cons_zero, List.set_cons_succ, i64_w, i32_w]; rfl)
               refine pure_ (i := 2) (N := some 110) (v := ?_) (a' := ?_) (tf 3 13) rfl rfl (any_of HT_.out (by kernel_rfl)) (fun _ _ _ h => h) (Or.inl ⟨by rfl, ?_⟩) ?_ ?_
               rotate_left
               ·(intro w'; go_simp; with_reducible rfl)
               rotate_left
               ·(simp only [Act.put, List.setIfInBounds_toArray, List.set_cons_zero, List.set_cons_succ, i64_w, i32_w]; rfl)
               refine pure_ (i := 3) (N := some 111) (v := ?_) (a' := ?_) (tf 4 13) rfl rfl (any_of HT_.out (by kernel_rfl)) (fun _ _ _ h => h) (Or.inl ⟨by rfl, ?_⟩) ?_ ?_
               rotate_left
               ·(intro w'; go_simp; with_reducible rfl)
               rotate_left
               ·(simp only [Act.put, List.setIfInBounds_toArray, List.set_cons_zero, List.set_cons_succ, i64_w, i32_w]; rfl)
               refine pure_ (i := 4) (N := some 112) (v := ?_) (a' := ?_) (tf 5 13) rfl rfl (any_of HT_.out (by kernel_rfl)) (fun _ _ _ h => h) (Or.inl ⟨by rfl, ?_⟩) ?_ ?_
               rotate_left
               ·(intro w'; go_simp; with_reducible rfl)
               rotate_left
               ·(simp only [Act.put, List.setIfInBounds_toArray, List.set_cons_zero, List.set_cons_succ, i64_w, i32_w]; rfl)
               refine pure_ (i := 5) (N := some 113) (v := ?_) (a' := ?_) (tf 6 13) rfl rfl (any_of HT_.out (by kernel_rfl)) (fun _ _ _ h => h) (Or.inl ⟨by rfl, ?_⟩) ?_ ?_
               rotate_left
               ·(intro w'; go_simp; with_reducible rfl)
               rotate_left
               ·(simp only [Act.put, List.setIfInBounds_toArray, List.set_cons_zero, List.set_cons_succ, i64_w, i32_w]; rfl)
               refine pure_ (i := 6) (N := some 114) (v := ?_) (a' := ?_) (tf 7 13) rfl rfl (any_of HT_.out (by kernel_rfl)) (fun _ _ _ h => h) (Or.inl ⟨by rfl, ?_⟩) ?_ ?_
               rotate_left
               ·(intro w'; go_simp; with_reducible rfl)
               rotate_left
               ·(simp only [Act.put, List.setIfInBounds_toArray, List.set_cons_zero, List.set_cons_succ, i64_w, i32_w]; rfl)
               refine pure_ (i := 7) (N := some 115) (v := ?_) (a' := ?_) (tf 8 13) rfl rfl (any_of HT_.out (by kernel_rfl)) (fun _ _ _ h => h) (Or.inl ⟨by rfl, ?_⟩) ?_ ?_
               rotate_left
               ·(intro w'; go_simp; with_reducible rfl)
               rotate_left
               ·(simp only [Act.put, List.setIfInBounds_toArray, List.set_cons_zero, List.set_cons_succ, i64_w, i32_w]; rfl)
               refine pure_ (i := 8) (N := some 116) (v := ?_) (a' := ?_) (tf 9 13) rfl rfl (any_of HT_.out (by kernel_rfl)) (fun _ _ _ h => h) (Or.inl ⟨by rfl, ?_⟩) ?_ ?_
               rotate_left
               ·(intro w'; go_simp; with_reducible rfl)
               rotate_left
               ·(simp only [Act.put, List.setIfInBounds_toArray, List.set_cons_zero, List.set_cons_succ, i64_w, i32_w]; rfl)
               refine pure_ (i := 9) (N := some 117) (v := ?_) (a' := ?_) (tf 10 13) rfl rfl (any_of HT_.out (by kernel_rfl)) (fun _ _ _ h => h) (Or.inl ⟨by rfl, ?_⟩) ?_ ?_
               rotate_left
               ·(intro w'; go_simp; with_reducible rfl)
               rotate_left
               ·(simp only [Act.put, List.setIfInBounds_toArray, List.set_cons_zero, List.set_cons_succ, i64_w, i32_w]; rfl)
               refine pure_ (i := 10) (N := some 118) (v := ?_) (a' := ?_) (tf 11 13) rfl rfl (any_of HT_.out (by kernel_rfl)) (fun _ _ _ h => h) (Or.inl ⟨by rfl, ?_⟩) ?_ ?_
               rotate_left
               ·(intro w'; go_simp; with_reducible rfl)
               rotate_left
               ·(simp only [Act.put, List.setIfInBounds_toArray, List.set_cons_zero, List.set_cons_succ, i64_w, i32_w]; rfl)
               refine pure_ (i := 11) (N := some 119) (v := ?_) (a' := ?_) (tf 12 13) rfl rfl (any_of HT_.out (by kernel_rfl)) (fun _ _ _ h => h) (Or.inl ⟨by rfl, ?_⟩) ?_ ?_
               rotate_left
               ·(intro w'; go_simp; with_reducible rfl)
               rotate_left
               ·(simp only [Act.put, List.setIfInBounds_toArray, List.set_cons_zero, List.set_cons_succ, i64_w, i32_w]; rfl)
               refine pure_ (i := 12) (N := some 120) (v := ?_) (a' := ?_) (tf 13 13) rfl rfl (any_of HT_.out (by kernel_rfl)) (fun _ _ _ h => h) (Or.inl ⟨by rfl, ?_⟩) ?_ ?_
               rotate_left
               ·(intro w'; go_simp; with_reducible rfl)
               rotate_left
               ·(simp only [Act.put, List.setIfInBounds_toArray, List.set_cons_zero, List.set_cons_succ, i64_w, i32_w]; rfl)
               refine done_ (done_of HT_.out (by kernel_rfl)) ?_
               try go_wp2
               go_meet
               case rel => exact ⟨_, (((x7_4.extract 0 (t155 : Int).toNat).toList != (x8_4.extract 0 (t155 : Int).toNat).toList)), (by first | rfl | (simp; done) | (simp [*]; done)), H', ⟨by have := HK1.out; have := HJ3.out; have := HJ22.out; have := HK4.out; have := HJ40.out; first | omega | exact Nat.le_refl _⟩, ⟨by (with_reducible repeat (first | apply Kd.R_alloc | apply Kd.R_drewN | apply Kd.R_drew)); exact HO_1.out⟩, ⟨by repeat (first | (with_reducible first | exact HK.out | apply Kept.alloc | apply Kept.drewN | apply Kept.drew) | exact HK.out)⟩, ⟨by repeat (first | (with_reducible first | exact HB.out | apply below_alloc | apply pw_below_drewN | apply below_drew1) | exact HB.out)⟩⟩
              case rest =>
               clear HC45
               try clear c1
               try clear p1
               try clear q1
               try clear hx1
               try clear c2
               try clear p2
               try clear c3
               try clear c3b0
               try clear c4
               try clear c5
               try clear p6
               try clear c7
               try clear c7b0
               try clear c7b1
               try clear c8
               try clear c8b0
               try clear c9
               try clear c9b0
               try clear c9b1
               try clear c11
               try clear c11b0
               try clear c12
               try clear c12b0
               try clear c13
               try clear p14
               try clear q14
               try clear hx14
               try clear c15
               try clear c15b0
               try clear p15
               try clear q15
               try clear hx15
               try clear c16
               try clear c16b0
               try clear c17
               try clear c17b0
               try clear c18
               try clear c18b0
               try clear c20
               try clear c20b0
               try clear c21
               try clear c21b0
               try clear c25
               try clear c25b0
               try clear c25b1
               try clear c27
               try clear c27b0
               try clear c27b1
               try clear c28
               try clear c28b0
               try clear c28b1
               try clear c30
               try clear c30b0
               try clear c30b1
               try clear c31
               try clear c31b0
               try clear c31b1
               try clear c32
               try clear c32b0
               try clear c33
               try clear c33b0
               try clear c34
               try clear c34b0
               try clear c34b1
               try clear c34b2
               try clear c35
               try clear c35b0
               try clear c35b1
               try clear c35b2
               try clear c36
               try clear c42
               try clear c42b0
               try clear c42b1
               try clear c43
               try clear c47
               try clear c47b0
               try clear c47b1
               try clear c48
               try clear c49
               try clear c49b0
               try clear c49b1
               try clear c50
               try clear c50b0
               try clear c50b1
               try clear c51
               try clear c51b0
               try clear c52
               try clear c52b0
               try clear c52b1
               try clear hx146_0
               try clear hx146_1
               try clear hx147_0
               try clear hx147_1
               try clear hx148_0
               try clear hx148_1
               try clear hx149_0
               try clear hx149_1
               try clear hx150_0
               try clear hx150_1
               try clear p1
               try clear p14
               try clear p146
               try clear p147
               try clear p148
               try clear p149
               try clear p15
               try clear p150
               try clear p2
               try clear p6
               try clear q1
               try clear q14
               try clear q146
               try clear q147
               try clear q148
               try clear q149
               try clear q15
               try clear q150
               obtain ⟨kq, x120_44, rfl, HA, HJ44, HO_1, HK, HB⟩ := hcut
               cases kq with
               | zero => exact absurd HA.out (by simp [diffmatchpatch_DiffMatchPatch_DiffCleanupSemanticLossless.j5])
               | succ kj44 =>
                have H := HA.out
                clear HA
                simp only [diffmatchpatch_DiffMatchPatch_DiffCleanupSemanticLossless.j5] at H
                by_cases c54 : x120_44 = true
                ·subst c54
                 have H1 : (diffmatchpatch_DiffMatchPatch_DiffCleanupSemanticLossless.j6 kj44 x1_1 x5_1 x11_4 x12_4 x13_4) = some r := by rw [if_pos rfl] at H; exact H
                 clear H
                 have H := H1
                 clear H1
                 have H' := Aside0.mk H
                 clear H
                 go_wp2
                 go_meet
                 case rel => exact ⟨_, (x11_4), (x12_4), (x13_4), (by first | rfl | (simp; done) | (simp [*]; done)), (by first | rfl | (simp; done) | (simp [*]; done)), (by first | rfl | (simp; done) | (simp [*]; done)), H', ⟨by have := HK1.out; have := HJ3.out; have := HJ22.out; have := HK4.out; have := HJ40.out; have := HJ44.out; first | omega | exact Nat.le_refl _⟩, ⟨by (with_reducible repeat (first | apply Kd.R_alloc | apply Kd.R_drewN | apply Kd.R_drew)); exact HO_1.out⟩, ⟨by repeat (first | (with_reducible first | exact HK.out | apply Kept.alloc | apply Kept.drewN | apply Kept.drew) | exact HK.out)⟩, ⟨by repeat (first | (with_reducible first | exact HB.out | apply below_alloc | apply pw_below_drewN | apply below_drew1) | exact HB.out)⟩⟩
                as_aux_lemma =>
                 replace c54 := Bool.eq_false_iff.mpr c54
                 subst c54
                 have H1 : (if 0 ≤ t155 then (if t155 ≤ (x7_4.size : Int) then (if x6_4.size + (x7_4.extract 0 (t155 : Int).toNat).size ≤ 9223372036854775807 then (if t155 ≤ (x8_4.size : Int) then (if (x7_4.extract (t155 : Int).toNat x7_4.size).size + (x8_4.extract 0 (t155 : Int).toNat).size ≤ 9223372036854775807 then ((diffmatchpatch_diffCleanupSemanticScore.f kj44 (x6_4 ++ (x7_4.extract 0 (t155 : Int).toNat)) ((x7_4.extract (t155 : Int).toNat x7_4.size) ++ (x8_4.extract 0 (t155 : Int).toNat))).bind fun t156 => ((diffmatchpatch_diffCleanupSemanticScore.f kj44 ((x7_4.extract (t155 : Int).toNat x7_4.size) ++ (x8_4.extract 0 (t155 : Int).toNat)) (x8_4.extract (t155 : Int).toNat x8_4.size)).bind fun t157 => (if (wrap64 (t156 + t157)) ≥ x14_4 then (diffmatchpatch_DiffMatchPatch_DiffCleanupSemanticLossless.l1 kj44 x1_1 x5_1 (x6_4 ++ (x7_4.extract 0 (t155 : Int).toNat)) ((x7_4.extract (t155 : Int).toNat x7_4.size) ++ (x8_4.extract 0 (t155 : Int).toNat)) (x8_4.extract (t155 : Int).toNat x8_4.size) (x6_4 ++ (x7_4.extract 0 (t155 : Int).toNat)) ((x7_4.extract (t155 : Int).toNat x7_4.size) ++ (x8_4.extract 0 (t155 : Int).toNat)) (x8_4.extract (t155 : Int).toNat x8_4.size) (wrap64 (t156 + t157))) else (diffmatchpatch_DiffMatchPatch_DiffCleanupSemanticLossless.l1 kj44 x1_1 x5_1 (x6_4 ++ (x7_4.extract 0 (t155 : Int).toNat)) ((x7_4.extract (t155 : Int).toNat x7_4.size) ++ (x8_4.extract 0 (t155 : Int).toNat)) (x8_4.extract (t155 : Int).toNat x8_4.size) x11_4 x12_4 x13_4 x14_4)))) else (none)) else (none)) else (none)) else (none)) else (none)) = some r := by rw [if_neg (show ¬ (false = true) by decide)] at H; exact H
                 clear H
                 have H := H1
                 clear H1
                 by_cases c55 : 0 ≤ t155
                 case neg =>
                  rw [if_neg c55] at H
                  exact absurd H (by simp)
                 rw [if_pos c55] at H
                 have c55b0 := eq_true c55
                 have c55b1 : decide (0 ≤ t155) = true := decide_eq_true c55
                 clear c55
                 by_cases c56 : t155 ≤ (x7_4.size : Int)
                 case neg =>
                  rw [if_neg c56] at H
                  exact absurd H (by simp)
                 rw [if_pos c56] at H
                 have c56b0 := eq_true c56
                 have c56b1 : decide (t155 ≤ (x7_4.size : Int)) = true := decide_eq_true c56
                 clear c56
                 by_cases c57 : x6_4.size + (x7_4.extract 0 (t155 : Int).toNat).size ≤ 9223372036854775807
                 case neg =>
                  rw [if_neg c57] at H
                  exact absurd H (by simp)
                 rw [if_pos c57] at H
                 have c57b0 := eq_true c57
                 have c57b1 : decide (x6_4.size + (x7_4.extract 0 (t155 : Int).toNat).size ≤ 9223372036854775807) = true := decide_eq_true c57
                 try have c57b2 : (9223372036854775807 < x6_4.size + (x7_4.extract 0 (t155 : Int).toNat).size) = False := eq_false (Nat.not_lt.2 c57)
                 (try (have c57b4 := c57b2; simp only [ByteArray.size_append] at c57b4))
                 have c58b0 := eq_true (of_decide_eq_true (by first | (with_reducible assumption) | assumption) : 0 ≤ t155)
                 have c59b0 := eq_true (of_decide_eq_true (by first | (with_reducible assumption) | assumption) : t155 ≤ (x7_4.size : Int))
                 have c60b0 := eq_true (of_decide_eq_true (by first | (with_reducible assumption) | assumption) : 0 ≤ t155)
                 by_cases c61 : t155 ≤ (x8_4.size : Int)
                 case neg =>
                  rw [if_neg c61] at H
                  exact absurd H (by simp)
                 rw [if_pos c61] at H
                 have c61b0 := eq_true c61
                 have c61b1 : decide (t155 ≤ (x8_4.size : Int)) = true := decide_eq_true c61
                 clear c61
                 by_cases c62 : (x7_4.extract (t155 : Int).toNat x7_4.size).size + (x8_4.extract 0 (t155 : Int).toNat).size ≤ 9223372036854775807
                 case neg =>
                  rw [if_neg c62] at H
                  exact absurd H (by simp)
                 rw [if_pos c62] at H
                 have c62b0 := eq_true c62
                 have c62b1 : decide ((x7_4.extract (t155 : Int).toNat x7_4.size).size + (x8_4.extract 0 (t155 : Int).toNat).size ≤ 9223372036854775807) = true := decide_eq_true c62
                 try have c62b2 : (9223372036854775807 < (x7_4.extract (t155 : Int).toNat x7_4.size).size + (x8_4.extract 0 (t155 : Int).toNat).size) = False := eq_false (Nat.not_lt.2 c62)
                 (try (have c62b4 := c62b2; simp only [ByteArray.size_append] at c62b4))
                 have c63b0 := eq_true (of_decide_eq_true (by first | (with_reducible assumption) | assumption) : 0 ≤ t155)
                 have c64b0 := eq_true (of_decide_eq_true (by first | (with_reducible assumption) | assumption) : t155 ≤ (x8_4.size : Int))
                 replace H := Option.bind_eq_some_iff.mp H
                 obtain ⟨t156, A650, H⟩ := H
                 replace H : ((diffmatchpatch_diffCleanupSemanticScore.f kj44 ((x7_4.extract (t155 : Int).toNat x7_4.size) ++ (x8_4.extract 0 (t155 : Int).toNat)) (x8_4.extract (t155 : Int).toNat x8_4.size)).bind fun t157 => (if (wrap64 (t156 + t157)) ≥ x14_4 then (diffmatchpatch_DiffMatchPatch_DiffCleanupSemanticLossless.l1 kj44 x1_1 x5_1 (x6_4 ++ (x7_4.extract 0 (t155 : Int).toNat)) ((x7_4.extract (t155 : Int).toNat x7_4.size) ++ (x8_4.extract 0 (t155 : Int).toNat)) (x8_4.extract (t155 : Int).toNat x8_4.size) (x6_4 ++ (x7_4.extract 0 (t155 : Int).toNat)) ((x7_4.extract (t155 : Int).toNat x7_4.size) ++ (x8_4.extract 0 (t155 : Int).toNat)) (x8_4.extract (t155 : Int).toNat x8_4.size) (wrap64 (t156 + t157))) else (diffmatchpatch_DiffMatchPatch_DiffCleanupSemanticLossless.l1 kj44 x1_1 x5_1 (x6_4 ++ (x7_4.extract 0 (t155 : Int).toNat)) ((x7_4.extract (t155 : Int).toNat x7_4.size) ++ (x8_4.extract 0 (t155 : Int).toNat)) (x8_4.extract (t155 : Int).toNat x8_4.size) x11_4 x12_4 x13_4 x14_4))) = some r := H
                 have A65 := Aside0.mk A650
                 clear A650
                 replace H := Option.bind_eq_some_iff.mp H
                 obtain ⟨t157, A660, H⟩ := H
                 replace H : (if (wrap64 (t156 + t157)) ≥ x14_4 then (diffmatchpatch_DiffMatchPatch_DiffCleanupSemanticLossless.l1 kj44 x1_1 x5_1 (x6_4 ++ (x7_4.extract 0 (t155 : Int).toNat)) ((x7_4.extract (t155 : Int).toNat x7_4.size) ++ (x8_4.extract 0 (t155 : Int).toNat)) (x8_4.extract (t155 : Int).toNat x8_4.size) (x6_4 ++ (x7_4.extract 0 (t155 : Int).toNat)) ((x7_4.extract (t155 : Int).toNat x7_4.size) ++ (x8_4.extract 0 (t155 : Int).toNat)) (x8_4.extract (t155 : Int).toNat x8_4.size) (wrap64 (t156 + t157))) else (diffmatchpatch_DiffMatchPatch_DiffCleanupSemanticLossless.l1 kj44 x1_1 x5_1 (x6_4 ++ (x7_4.extract 0 (t155 : Int).toNat)) ((x7_4.extract (t155 : Int).toNat x7_4.size) ++ (x8_4.extract 0 (t155 : Int).toNat)) (x8_4.extract (t155 : Int).toNat x8_4.size) x11_4 x12_4 x13_4 x14_4)) = some r := H
                 have A66 := Aside0.mk A660
                 clear A660
                 by_cases c67 : (wrap64 (t156 + t157)) ≥ x14_4
                 case neg =>
                  rw [if_neg c67] at H
                  have c67b0 : decide (x14_4 ≤ (wrap64 (t156 + t157))) = false := decide_eq_false c67
                  clear c67
                  have H' := Aside0.mk H
                  clear H
                  try go_wp2
                  have n0_ := Aside0.mk (Kd.R_drew HO_1.out)
                  have n1_ := Aside0.mk (Kept.drew HK.out)
                  have n2_ := Aside0.mk (below_drew1 HB.out)
                  clear HO_1
                  clear HK
                  clear HB
                  have HO_1 := n0_
                  have HK := n1_
                  have HB := n2_
                  clear n0_ n1_ n2_
                  refine start_ (n := 8) (S := fun w' => True) (ds := []) #[false, false, false, false, false, false, false, false] (by kernel_rfl) rfl rfl trivial (fun hHeld => ?_); refine with_tabW diffmatchpatch_DiffMatchPatch_DiffCleanupSemanticLossless.tab21 diffmatchpatch_DiffMatchPatch_DiffCleanupSemanticLossless.bits21 (fun HT_ HW_ => ?_)
                  generalize wc.drew = w71 at HO_1 HK HB hHeld ⊢
                  refine pure_ (i := 0) (N := some 126) (v := ?_) (a' := ?_) (tf 1 8) rfl rfl (any_of HT_.out (by kernel_rfl)) (fun _ _ _ h => h) (Or.inl ⟨by rfl, ?_⟩) ?_ ?_
                  rotate_left
                  ·(intro w'; go_simp; with_reducible rfl)
                  rotate_left
                  ·(simp only [Act.put, List.setIfInBounds_toArray, List.set_cons_zero, List.set_cons_succ, i64_w, i32_w]; rfl)
                  refine pure_ (i := 1) (N := some 127) (v := ?_) (a' := ?_) (tf 2 8) rfl rfl (any_of HT_.out (by kernel_rfl)) (fun _ _ _ h => h) (Or.inl ⟨by rfl, ?_⟩) ?_ ?_
                  rotate_left
                  ·(intro w'; go_simp; with_reducible rfl)
                  rotate_left
                  ·(simp only [Act.put, List.setIfInBounds_toArray, List.set_cons_zero, List.set_cons_succ, i64_w, i32_w]; rfl)
                  refine pure_ (i := 2) (N := some 128) (v := ?_) (a' := ?_) (tf 3 8) rfl rfl (any_of HT_.out (by kernel_rfl)) (fun _ _ _ h => h) (Or.inl ⟨by rfl, ?_⟩) ?_ ?_
                  rotate_left
                  ·(intro w'; go_simp; with_reducible rfl)
                  rotate_left
                  ·(simp only [Act.put, List.setIfInBounds_toArray, List.set_cons_zero, List.set_cons_succ, i64_w, i32_w]; rfl)
                  refine pure_ (i := 3) (N := some 129) (v := ?_) (a' := ?_) (tf 4 8) rfl rfl (any_of HT_.out (by kernel_rfl)) (fun _ _ _ h => h) (Or.inl ⟨by rfl, ?_⟩) ?_ ?_
                  rotate_left
                  ·(intro w'; go_simp; with_reducible rfl)
                  rotate_left
                  ·(simp only [Act.put, List.setIfInBounds_toArray, List.set_cons_zero, List.set_cons_succ, i64_w, i32_w]; rfl)
                  refine pure_ (i := 4) (N := some 130) (v := ?_) (a' := ?_) (tf 5 8) rfl rfl (any_of HT_.out (by kernel_rfl)) (fun _ _ _ h => h) (Or.inl ⟨by rfl, ?_⟩) ?_ ?_
                  rotate_left
                  ·(intro w'; go_simp; with_reducible rfl)
                  rotate_left
                  ·(simp only [Act.put, List.setIfInBounds_toArray, List.set_cons_zero, List.set_cons_succ, i64_w, i32_w]; rfl)
                  refine pure_ (i := 5) (N := some 131) (v := ?_) (a' := ?_) (tf 6 8) rfl rfl (any_of HT_.out (by kernel_rfl)) (fun _ _ _ h => h) (Or.inl ⟨by rfl, ?_⟩) ?_ ?_
                  rotate_left
                  ·(intro w'; go_simp; with_reducible rfl)
                  rotate_left
                  ·(simp only [Act.put, List.setIfInBounds_toArray, List.set_cons_zero, List.set_cons_succ, i64_w, i32_w]; rfl)
                  refine pure_ (i := 6) (N := some 132) (v := ?_) (a' := ?_) (tf 7 8) rfl rfl (any_of HT_.out (by kernel_rfl)) (fun _ _ _ h => h) (Or.inl ⟨by rfl, ?_⟩) ?_ ?_
                  rotate_left
                  ·(intro w'; go_simp; first | with_reducible rfl | (rw [if_neg (Nat.not_lt.2 (by have h_ := c62; (try have ec62 := of_eq_true c62b0); (try have ec61 := of_eq_true c61b0); (try have ec57 := of_eq_true c57b0); (try have ec56 := of_eq_true c56b0); simp only [ByteArray.size_extract] at h_; omega))]) | (rw [if_neg (Nat.not_lt.2 (by have h_ := c57; (try have ec62 := of_eq_true c62b0); (try have ec61 := of_eq_true c61b0); (try have ec57 := of_eq_true c57b0); (try have ec56 := of_eq_true c56b0); simp only [ByteArray.size_extract] at h_; omega))]))
                  rotate_left
                  ·(simp only [Act.put, List.setIfInBounds_toArray, List.set_cons_zero, List.set_cons_succ, i64_w, i32_w]; rfl)
                  refine pure_ (i := 7) (N := some 7) (v := ?_) (a' := ?_) (tf 8 8) rfl rfl (any_of HT_.out (by kernel_rfl)) (fun _ _ _ h => h) (Or.inl ⟨by rfl, ?_⟩) ?_ ?_
                  rotate_left
                  ·(intro w'; go_simp; with_reducible rfl)
                  rotate_left
                  ·(simp only [Act.put, List.setIfInBounds_toArray, List.set_cons_zero, List.set_cons_succ, i64_w, i32_w]; rfl)
                  refine done_ (done_of HT_.out (by kernel_rfl)) ?_
                  try go_wp2_with (first | ((with_reducible refine gate_callee (f := 47) rfl ?_); refine goesL_ (some 138) rfl rfl Tryd.func47 (by kernel_rfl) rfl #[.string (x6_4 ++ (x7_4.extract 0 (t155 : Int).toNat)), .string ((x7_4.extract (t155 : Int).toNat x7_4.size) ++ (x8_4.extract 0 (t155 : Int).toNat))] rfl (by (try simp only [List.map_toArray, List.map_cons, List.map_nil]); first | done | rfl | (simp only [List.length_drop, List.length_take]; rfl)) ?_; (with_reducible refine (diffmatchpatch_diffCleanupSemanticScore.calls kj44 (x6_4 ++ (x7_4.extract 0 (t155 : Int).toNat)) ((x7_4.extract (t155 : Int).toNat x7_4.size) ++ (x8_4.extract 0 (t155 : Int).toNat)) t156 _ ?side1 A65.out).mono ?_); (case side1 => exact Glob.below hG_ (by repeat (first | (with_reducible first | exact HB.out | apply below_alloc | apply pw_below_drewN | apply below_drew1) | exact HB.out))); rintro e w72 ⟨rfl, hb⟩; refine ⟨_, rfl, ?_⟩; have n0_ := Aside0.mk (Kd.R_below (by (with_reducible repeat (first | apply Kd.R_alloc | apply Kd.R_drewN | apply Kd.R_drew)); exact HO_1.out) hb); have n1_ := Aside0.mk (Kept.below (S := (fun k_ => P1_ k_)) (by repeat (first | (with_reducible first | exact HK.out | apply Kept.alloc | apply Kept.drewN | apply Kept.drew) | exact HK.out)) hb); have n2_ := Aside0.mk (below_step (by repeat (first | (with_reducible first | exact HB.out | apply below_alloc | apply pw_below_drewN | apply below_drew1) | exact HB.out)) hb); clear HO_1; clear HK; clear HB; have HO_1 := n0_; have HK := n1_; have HB := n2_; clear n0_ n1_ n2_; (try clear hb); (try clear hb2); (try clear hk); (try clear hi)) | ((with_reducible refine gate_callee (f := 47) rfl ?_); refine goesL_ (some 141) rfl rfl Tryd.func47 (by kernel_rfl) rfl #[.string ((x7_4.extract (t155 : Int).toNat x7_4.size) ++ (x8_4.extract 0 (t155 : Int).toNat)), .string (x8_4.extract (t155 : Int).toNat x8_4.size)] rfl (by (try simp only [List.map_toArray, List.map_cons, List.map_nil]); first | done | rfl | (simp only [List.length_drop, List.length_take]; rfl)) ?_; (with_reducible refine (diffmatchpatch_diffCleanupSemanticScore.calls kj44 ((x7_4.extract (t155 : Int).toNat x7_4.size) ++ (x8_4.extract 0 (t155 : Int).toNat)) (x8_4.extract (t155 : Int).toNat x8_4.size) t157 _ ?side1 A66.out).mono ?_); (case side1 => exact Glob.below hG_ (by repeat (first | (with_reducible first | exact HB.out | apply below_alloc | apply pw_below_drewN | apply below_drew1) | exact HB.out))); rintro e w73 ⟨rfl, hb⟩; refine ⟨_, rfl, ?_⟩; have n0_ := Aside0.mk (Kd.R_below (by (with_reducible repeat (first | apply Kd.R_alloc | apply Kd.R_drewN | apply Kd.R_drew)); exact HO_1.out) hb); have n1_ := Aside0.mk (Kept.below (S := (fun k_ => P1_ k_)) (by repeat (first | (with_reducible first | exact HK.out | apply Kept.alloc | apply Kept.drewN | apply Kept.drew) | exact HK.out)) hb); have n2_ := Aside0.mk (below_step (by repeat (first | (with_reducible first | exact HB.out | apply below_alloc | apply pw_below_drewN | apply below_drew1) | exact HB.out)) hb); clear HO_1; clear HK; clear HB; have HO_1 := n0_; have HK := n1_; have HB := n2_; clear n0_ n1_ n2_; (try clear hb); (try clear hb2); (try clear hk); (try clear hi)))
                  go_roundg kj44
                  case measure => have := HK1.out; have := HJ3.out; have := HJ22.out; have := HK4.out; have := HJ40.out; have := HJ44.out; omega
                  case rel => exact ⟨(x6_4 ++ (x7_4.extract 0 (t155 : Int).toNat)), ((x7_4.extract (t155 : Int).toNat x7_4.size) ++ (x8_4.extract 0 (t155 : Int).toNat)), (x8_4.extract (t155 : Int).toNat x8_4.size), (x11_4), (x12_4), (x13_4), (x14_4), (by first | rfl | (simp; done) | (simp [*]; done)), (by first | rfl | (simp; done) | (simp [*]; done)), (by first | rfl | (simp; done) | (simp [*]; done)), (by first | rfl | (simp; done) | (simp [*]; done)), (by first | rfl | (simp; done) | (simp [*]; done)), (by first | rfl | (simp; done) | (simp [*]; done)), (by first | rfl | (simp; done) | (simp [*]; done)), H', ⟨by have := HK1.out; have := HJ3.out; have := HJ22.out; have := HK4.out; have := HJ40.out; have := HJ44.out; omega⟩, ⟨by (with_reducible repeat (first | apply Kd.R_alloc | apply Kd.R_drewN | apply Kd.R_drew)); exact HO_1.out⟩, ⟨by repeat (first | (with_reducible first | exact HK.out | apply Kept.alloc | apply Kept.drewN | apply Kept.drew) | exact HK.out)⟩, ⟨by repeat (first | (with_reducible first | exact HB.out | apply below_alloc | apply pw_below_drewN | apply below_drew1) | exact HB.out)⟩⟩
                 rw [if_pos c67] at H
                 have c67b0 : decide (x14_4 ≤ (wrap64 (t156 + t157))) = true := decide_eq_true c67
                 clear c67
                 have H' := Aside0.mk H
                 clear H
                 try go_wp2
                 have n0_ := Aside0.mk (Kd.R_drew HO_1.out)
                 have n1_ := Aside0.mk (Kept.drew HK.out)
                 have n2_ := Aside0.mk (below_drew1 HB.out)
                 clear HO_1
                 clear HK
                 clear HB
                 have HO_1 := n0_
                 have HK := n1_
                 have HB := n2_
                 clear n0_ n1_ n2_
                 refine start_ (n := 8) (S := fun w' => True) (ds := []) #[false, false, false, false, false, false, false, false] (by kernel_rfl) rfl rfl trivial (fun hHeld => ?_); refine with_tabW diffmatchpatch_DiffMatchPatch_DiffCleanupSemanticLossless.tab21 diffmatchpatch_DiffMatchPatch_DiffCleanupSemanticLossless.bits21 (fun HT_ HW_ => ?_)
                 generalize wc.drew = w68 at HO_1 HK HB hHeld ⊢
                 refine pure_ (i := 0) (N := some 126) (v := ?_) (a' := ?_) (tf 1 8) rfl rfl (any_of HT_.out (by kernel_rfl)) (fun _ _ _ h => h) (Or.inl ⟨by rfl, ?_⟩) ?_ ?_
                 rotate_left
                 ·(intro w'; go_simp; with_reducible rfl)
                 rotate_left
                 ·(simp only [Act.put, List.setIfInBounds_toArray, List.set_cons_zero, List.set_cons_succ, i64_w, i32_w]; rfl)
                 refine pure_ (i := 1) (N := some 127) (v := ?_) (a' := ?_) (tf 2 8) rfl rfl (any_of HT_.out (by kernel_rfl)) (fun _ _ _ h => h) (Or.inl ⟨by rfl, ?_⟩) ?_ ?_
                 rotate_left
                 ·(intro w'; go_simp; with_reducible rfl)
                 rotate_left
                 ·(simp only [Act.put, List.setIfInBounds_toArray, List.set_cons_zero, List.set_cons_succ, i64_w, i32_w]; rfl)
                 refine pure_ (i := 2) (N := some 128) (v := ?_) (a' := ?_) (tf 3 8) rfl rfl (any_of HT_.out (by kernel_rfl)) (fun _ _ _ h => h) (Or.inl ⟨by rfl, ?_⟩) ?_ ?_
                 rotate_left
                 ·(intro w'; go_simp; with_reducible rfl)
                 rotate_left
                 ·(simp only [Act.put, List.setIfInBounds_toArray, List.set_cons_zero, List.set_cons_succ, i64_w, i32_w]; rfl)
                 refine pure_ (i := 3) (N := some 129) (v := ?_) (a' := ?_) (tf 4 8) rfl rfl (any_of HT_.out (by kernel_rfl)) (fun _ _ _ h => h) (Or.inl ⟨by rfl, ?_⟩) ?_ ?_
                 rotate_left
                 ·(intro w'; go_simp; with_reducible rfl)
                 rotate_left
                 ·(simp only [Act.put, List.setIfInBounds_toArray, List.set_cons_zero, List.set_cons_succ, i64_w, i32_w]; rfl)
                 refine pure_ (i := 4) (N := some 130) (v := ?_) (a' := ?_) (tf 5 8) rfl rfl (any_of HT_.out (by kernel_rfl)) (fun _ _ _ h => h) (Or.inl ⟨by rfl, ?_⟩) ?_ ?_
                 rotate_left
                 ·(intro w'; go_simp; with_reducible rfl)
                 rotate_left
                 ·(simp only [Act.put, List.setIfInBounds_toArray, List.set_cons_zero, List.set_cons_succ, i64_w, i32_w]; rfl)
                 refine pure_ (i := 5) (N := some 131) (v := ?_) (a' := ?_) (tf 6 8) rfl rfl (any_of HT_.out (by kernel_rfl)) (fun _ _ _ h => h) (Or.inl ⟨by rfl, ?_⟩) ?_ ?_
                 rotate_left
                 ·(intro w'; go_simp; with_reducible rfl)
                 rotate_left
                 ·(simp only [Act.put, List.setIfInBounds_toArray, List.set_cons_zero, List.set_cons_succ, i64_w, i32_w]; rfl)
                 refine pure_ (i := 6) (N := some 132) (v := ?_) (a' := ?_) (tf 7 8) rfl rfl (any_of HT_.out (by kernel_rfl)) (fun _ _ _ h => h) (Or.inl ⟨by rfl, ?_⟩) ?_ ?_
                 rotate_left
                 ·(intro w'; go_simp; first | with_reducible rfl | (rw [if_neg (Nat.not_lt.2 (by have h_ := c62; (try have ec62 := of_eq_true c62b0); (try have ec61 := of_eq_true c61b0); (try have ec57 := of_eq_true c57b0); (try have ec56 := of_eq_true c56b0); simp only [ByteArray.size_extract] at h_; omega))]) | (rw [if_neg (Nat.not_lt.2 (by have h_ := c57; (try have ec62 := of_eq_true c62b0); (try have ec61 := of_eq_true c61b0); (try have ec57 := of_eq_true c57b0); (try have ec56 := of_eq_true c56b0); simp only [ByteArray.size_extract] at h_; omega))]))
                 rotate_left
                 ·(simp only [Act.put, List.setIfInBounds_toArray, List.set_cons_zero, List.set_cons_succ, i64_w, i32_w]; rfl)
                 refine pure_ (i := 7) (N := some 7) (v := ?_) (a' := ?_) (tf 8 8) rfl rfl (any_of HT_.out (by kernel_rfl)) (fun _ _ _ h => h) (Or.inl ⟨by rfl, ?_⟩) ?_ ?_
                 rotate_left
                 ·(intro w'; go_simp; with_reducible rfl)
                 rotate_left
                 ·(simp only [Act.put, List.setIfInBounds_toArray, List.set_cons_zero, List.set_cons_succ, i64_w, i32_w]; rfl)
                 refine done_ (done_of HT_.out (by kernel_rfl)) ?_
                 try go_wp2_with (first | ((with_reducible refine gate_callee (f := 47) rfl ?_); refine goesL_ (some 138) rfl rfl Tryd.func47 (by kernel_rfl) rfl #[.string (x6_4 ++ (x7_4.extract 0 (t155 : Int).toNat)), .string ((x7_4.extract (t155 : Int).toNat x7_4.size) ++ (x8_4.extract 0 (t155 : Int).toNat))] rfl (by (try simp only [List.map_toArray, List.map_cons, List.map_nil]); first | done | rfl | (simp only [List.length_drop, List.length_take]; rfl)) ?_; (with_reducible refine (diffmatchpatch_diffCleanupSemanticScore.calls kj44 (x6_4 ++ (x7_4.extract 0 (t155 : Int).toNat)) ((x7_4.extract (t155 : Int).toNat x7_4.size) ++ (x8_4.extract 0 (t155 : Int).toNat)) t156 _ ?side1 A65.out).mono ?_); (case side1 => exact Glob.below hG_ (by repeat (first | (with_reducible first | exact HB.out | apply below_alloc | apply pw_below_drewN | apply below_drew1) | exact HB.out))); rintro e w69 ⟨rfl, hb⟩; refine ⟨_, rfl, ?_⟩; have n0_ := Aside0.mk (Kd.R_below (by (with_reducible repeat (first | apply Kd.R_alloc | apply Kd.R_drewN | apply Kd.R_drew)); exact HO_1.out) hb); have n1_ := Aside0.mk (Kept.below (S := (fun k_ => P1_ k_)) (by repeat (first | (with_reducible first | exact HK.out | apply Kept.alloc | apply Kept.drewN | apply Kept.drew) | exact HK.out)) hb); have n2_ := Aside0.mk (below_step (by repeat (first | (with_reducible first | exact HB.out | apply below_alloc | apply pw_below_drewN | apply below_drew1) | exact HB.out)) hb); clear HO_1; clear HK; clear HB; have HO_1 := n0_; have HK := n1_; have HB := n2_; clear n0_ n1_ n2_; (try clear hb); (try clear hb2); (try clear hk); (try clear hi)) | ((with_reducible refine gate_callee (f := 47) rfl ?_); refine goesL_ (some 141) rfl rfl Tryd.func47 (by kernel_rfl) rfl #[.string ((x7_4.extract (t155 : Int).toNat x7_4.size) ++ (x8_4.extract 0 (t155 : Int).toNat)), .string (x8_4.extract (t155 : Int).toNat x8_4.size)] rfl (by (try simp only [List.map_toArray, List.map_cons, List.map_nil]); first | done | rfl | (simp only [List.length_drop, List.length_take]; rfl)) ?_; (with_reducible refine (diffmatchpatch_diffCleanupSemanticScore.calls kj44 ((x7_4.extract (t155 : Int).toNat x7_4.size) ++ (x8_4.extract 0 (t155 : Int).toNat)) (x8_4.extract (t155 : Int).toNat x8_4.size) t157 _ ?side1 A66.out).mono ?_); (case side1 => exact Glob.below hG_ (by repeat (first | (with_reducible first | exact HB.out | apply below_alloc | apply pw_below_drewN | apply below_drew1) | exact HB.out))); rintro e w70 ⟨rfl, hb⟩; refine ⟨_, rfl, ?_⟩; have n0_ := Aside0.mk (Kd.R_below (by (with_reducible repeat (first | apply Kd.R_alloc | apply Kd.R_drewN | apply Kd.R_drew)); exact HO_1.out) hb); have n1_ := Aside0.mk (Kept.below (S := (fun k_ => P1_ k_)) (by repeat (first | (with_reducible first | exact HK.out | apply Kept.alloc | apply Kept.drewN | apply Kept.drew) | exact HK.out)) hb); have n2_ := Aside0.mk (below_step (by repeat (first | (with_reducible first | exact HB.out | apply below_alloc | apply pw_below_drewN | apply below_drew1) | exact HB.out)) hb); clear HO_1; clear HK; clear HB; have HO_1 := n0_; have HK := n1_; have HB := n2_; clear n0_ n1_ n2_; (try clear hb); (try clear hb2); (try clear hk); (try clear hi)))
                 go_roundg kj44
                 case measure => have := HK1.out; have := HJ3.out; have := HJ22.out; have := HK4.out; have := HJ40.out; have := HJ44.out; omega
                 case rel => exact ⟨(x6_4 ++ (x7_4.extract 0 (t155 : Int).toNat)), ((x7_4.extract (t155 : Int).toNat x7_4.size) ++ (x8_4.extract 0 (t155 : Int).toNat)), (x8_4.extract (t155 : Int).toNat x8_4.size), (x6_4 ++ (x7_4.extract 0 (t155 : Int).toNat)), ((x7_4.extract (t155 : Int).toNat x7_4.size) ++ (x8_4.extract 0 (t155 : Int).toNat)), (x8_4.extract (t155 : Int).toNat x8_4.size), (wrap64 (t156 + t157)), (by first | rfl | (simp; done) | (simp [*]; done)), (by first | rfl | (simp; done) | (simp [*]; done)), (by first | rfl | (simp; done) | (simp [*]; done)), (by first | rfl | (simp; done) | (simp [*]; done)), (by first | rfl | (simp; done) | (simp [*]; done)), (by first | rfl | (simp; done) | (simp [*]; done)), (by first | rfl | (simp; done) | (simp [*]; done)), H', ⟨by have := HK1.out; have := HJ3.out; have := HJ22.out; have := HK4.out; have := HJ40.out; have := HJ44.out; omega⟩, ⟨by (with_reducible repeat (first | apply Kd.R_alloc | apply Kd.R_drewN | apply Kd.R_drew)); exact HO_1.out⟩, ⟨by repeat (first | (with_reducible first | exact HK.out | apply Kept.alloc | apply Kept.drewN | apply Kept.drew) | exact HK.out)⟩, ⟨by repeat (first | (with_reducible first | exact HB.out | apply below_alloc | apply pw_below_drewN | apply below_drew1) | exact HB.out)⟩⟩
        case rest =>
         clear HC38
         try clear c1
         try clear p1
         try clear q1
         try clear hx1
         try clear c2
         try clear p2
         try clear c3
         try clear c3b0
         try clear c4
         try clear c5
         try clear c6
         try clear p6
         try clear c7
         try clear c7b0
         try clear c7b1
         try clear c8
         try clear c8b0
         try clear c9
         try clear c9b0
         try clear c9b1
         try clear c11
         try clear c11b0
         try clear c12
         try clear c12b0
         try clear c13
         try clear p14
         try clear q14
         try clear hx14
         try clear c15
         try clear c15b0
         try clear p15
         try clear q15
         try clear hx15
         try clear c16
         try clear c16b0
         try clear c17
         try clear c17b0
         try clear c18
         try clear c18b0
         try clear c20
         try clear c20b0
         try clear c21
         try clear c21b0
         try clear c25
         try clear c25b0
         try clear c25b1
         try clear c27
         try clear c27b0
         try clear c27b1
         try clear c28
         try clear c28b0
         try clear c28b1
         try clear c30
         try clear c30b0
         try clear c30b1
         try clear c31
         try clear c31b0
         try clear c31b1
         try clear c32
         try clear c32b0
         try clear c33
         try clear c33b0
         try clear c34
         try clear c34b0
         try clear c34b1
         try clear c34b2
         try clear c35
         try clear c35b0
         try clear c35b1
         try clear c35b2
         try clear c36
         try clear c42
         try clear c42b0
         try clear c42b1
         try clear c43
         try clear c47
         try clear c47b0
         try clear c47b1
         try clear c48
         try clear c49
         try clear c49b0
         try clear c49b1
         try clear c50
         try clear c50b0
         try clear c50b1
         try clear c51
         try clear c51b0
         try clear c52
         try clear c52b0
         try clear c52b1
         try clear c54
         try clear c55
         try clear c55b0
         try clear c55b1
         try clear c56
         try clear c56b0
         try clear c56b1
         try clear c57
         try clear c57b0
         try clear c57b1
         try clear c57b2
         try clear c58
         try clear c58b0
         try clear c59
         try clear c59b0
         try clear c60
         try clear c60b0
         try clear c61
         try clear c61b0
         try clear c61b1
         try clear c62
         try clear c62b0
         try clear c62b1
         try clear c62b2
         try clear c63
         try clear c63b0
         try clear c64
         try clear c64b0
         try clear p64
         try clear c67
         try clear c67b0
         try clear hx146_0
         try clear hx146_1
         try clear hx147_0
         try clear hx147_1
         try clear hx148_0
         try clear hx148_1
         try clear hx149_0
         try clear hx149_1
         try clear hx150_0
         try clear hx150_1
         try clear p1
         try clear p14
         try clear p146
         try clear p147
         try clear p148
         try clear p149
         try clear p15
         try clear p150
         try clear p2
         try clear p6
         try clear q1
         try clear q14
         try clear q146
         try clear q147
         try clear q148
         try clear q149
         try clear q15
         try clear q150
         obtain ⟨kq, x11_37, x12_37, x13_37, rfl, rfl, rfl, HA, HJ37, HO_1, HK, HB⟩ := hcut
         cases kq with
         | zero => exact absurd HA.out (by simp [diffmatchpatch_DiffMatchPatch_DiffCleanupSemanticLossless.j6])
         | succ kj37 =>
          have H := HA.out
          clear HA
          simp only [diffmatchpatch_DiffMatchPatch_DiffCleanupSemanticLossless.j6] at H
          obtain ⟨ji74, hji74⟩ : ∃ j_ : Int, (wrap64 (x5_1 - 1)) = j_ := ⟨_, rfl⟩
          replace H : (if 0 ≤ (ji74) then (if (ji74) < (x1_1.length : Int) then (if ((rd_T59 x1_1 (ji74)).f1).toList = x11_37.toList then (diffmatchpatch_DiffMatchPatch_DiffCleanupSemanticLossless.l0 kj37 x1_1 (wrap64 (x5_1 + 1))) else (if (x11_37.size : Int) = 0 then ((diffmatchpatch_splice.f x1_1 (ji74) 1 ([] : List (S59))).bind fun t159 => (if (ji74) < (t159.length : Int) then ((some (t159.set ((ji74) : Int).toNat (⟨(rd_T59 t159 (ji74)).f0, x12_37⟩ : S59) : List (S59))).bind fun y162 => (if (x13_37.size : Int) = 0 then (if 0 ≤ (wrap64 ((ji74) + 1)) then (if (wrap64 ((ji74) + 1)) ≤ (t159.length : Int) then (if 0 ≤ (wrap64 ((ji74) + 2)) then (if (wrap64 ((ji74) + 2)) ≤ (t159.length : Int) then (diffmatchpatch_DiffMatchPatch_DiffCleanupSemanticLossless.l0 kj37 (y162.eraseIdx ((wrap64 ((ji74) + 1)) : Int).toNat) (wrap64 ((wrap64 ((ji74) - 1)) + 1))) else (none)) else (none)) else (none)) else (none)) else (if 0 ≤ (wrap64 ((ji74) + 1)) then (if (wrap64 ((ji74) + 1)) < (t159.length : Int) then (diffmatchpatch_DiffMatchPatch_DiffCleanupSemanticLossless.l0 kj37 (y162.set ((wrap64 ((ji74) + 1)) : Int).toNat (⟨(rd_T59 y162 (wrap64 ((ji74) + 1))).f0, x13_37⟩ : S59)) (wrap64 ((ji74) + 1))) else (none)) else (none)))) else (none))) else ((some (x1_1.set ((ji74) : Int).toNat (⟨(rd_T59 x1_1 (ji74)).f0, x11_37⟩ : S59) : List (S59))).bind fun y175 => (if 0 ≤ x5_1 then (if x5_1 < (x1_1.length : Int) then ((some (y175.set (x5_1 : Int).toNat (⟨(rd_T59 y175 x5_1).f0, x12_37⟩ : S59) : List (S59))).bind fun y176 => (if (x13_37.size : Int) = 0 then (if 0 ≤ (wrap64 (x5_1 + 1)) then (if (wrap64 (x5_1 + 1)) ≤ (x1_1.length : Int) then (if 0 ≤ (wrap64 (x5_1 + 2)) then (if (wrap64 (x5_1 + 2)) ≤ (x1_1.length : Int) then (diffmatchpatch_DiffMatchPatch_DiffCleanupSemanticLossless.l0 kj37 (y176.eraseIdx ((wrap64 (x5_1 + 1)) : Int).toNat) (wrap64 ((ji74) + 1))) else (none)) else (none)) else (none)) else (none)) else (if 0 ≤ (wrap64 (x5_1 + 1)) then (if (wrap64 (x5_1 + 1)) < (x1_1.length : Int) then (diffmatchpatch_DiffMatchPatch_DiffCleanupSemanticLossless.l0 kj37 (y176.set ((wrap64 (x5_1 + 1)) : Int).toNat (⟨(rd_T59 y176 (wrap64 (x5_1 + 1))).f0, x13_37⟩ : S59)) (wrap64 (x5_1 + 1))) else (none)) else (none)))) else (none)) else (none))))) else (none)) else (none)) = some r := by first | (rw [hji74] at H; exact H) | (simp only [hji74] at H ⊢; exact H)
          have hji74w : (IntKind.i64.wrap (x5_1 - 1)) = ji74 := (i64_w _).trans hji74
          (try rw [hji74] at hji14w)
          obtain rfl : ji74 = ji14 := hji74.symm.trans hji14
          by_cases c75 : 0 ≤ (ji74)
          case neg =>
           rw [if_neg c75] at H
           exact absurd H (by simp)
          as_aux_lemma =>
           rw [if_pos c75] at H
           have c75b0 : decide (0 ≤ (ji74)) = true := decide_eq_true c75
           clear c75
           by_cases c76 : (ji74) < (x1_1.length : Int)
           case neg =>
            rw [if_neg c76] at H
            exact absurd H (by simp)
           rw [if_pos c76] at H
           have c76b0 : decide ((ji74) < (x1_1.length : Int)) = true := decide_eq_true c76
           clear c76
           by_cases c77 : ((rd_T59 x1_1 (ji74)).f1).toList = x11_37.toList
           ·rw [if_pos c77] at H
            have c77b0 : (((rd_T59 x1_1 (ji74)).f1).toList == x11_37.toList) = true := beq_iff_eq.mpr c77
            have c77b1 : (((rd_T59 x1_1 (ji74)).f1).toList != x11_37.toList) = false := bne_eq_false_iff_eq.mpr c77
            clear c77
            have H' := Aside0.mk H
            clear H
            have p158 : 0 ≤ ((ji74) : Int) := of_decide_eq_true (by first | (with_reducible assumption) | assumption)
            have q158 : (ji74) < (x1_1.length : Int) := of_decide_eq_true (by first | (with_reducible assumption) | assumption)
            obtain ⟨ad158, e158, hx158_0, hx158_1⟩ := at_T59 (Kd.R_reads' HO_1.out).2.2 (ji74) p158 q158
            obtain rfl : ad148 = ad158 := (by injection e158)
            replace p158 := eq_true p158
            replace q158 := eq_true q158
            go_wp2
            go_roundg kj37
            case measure => have := HK1.out; have := HJ3.out; have := HJ22.out; have := HJ37.out; omega
            case rel => exact ⟨(x1_1), (wrap64 (x5_1 + 1)), (by first | rfl | (simp; done) | (simp [*]; done)), H', ⟨by have := HK1.out; have := HJ3.out; have := HJ22.out; have := HJ37.out; omega⟩, ⟨by (with_reducible repeat (first | apply Kd.R_alloc | apply Kd.R_drewN | apply Kd.R_drew)); exact HO_1.out⟩, ⟨by repeat (first | (with_reducible first | exact HK.out | apply Kept.alloc | apply Kept.drewN | apply Kept.drew) | exact HK.out)⟩, ⟨by repeat (first | (with_reducible first | exact HB.out | apply below_alloc | apply pw_below_drewN | apply below_drew1) | exact HB.out)⟩⟩
           rw [if_neg c77] at H
           have c77b0 : (((rd_T59 x1_1 (ji74)).f1).toList == x11_37.toList) = false := beq_eq_false_iff_ne.mpr c77
           have c77b1 : (((rd_T59 x1_1 (ji74)).f1).toList != x11_37.toList) = true := bne_iff_ne.mpr c77
           by_cases c78 : (x11_37.size : Int) = 0
           ·as_aux_lemma =>
             rw [if_pos c78] at H
             have c78b0 : ((x11_37.size : Int) == 0) = true := beq_iff_eq.mpr c78
             have c78b1 : ((x11_37.size : Int) != 0) = false := bne_eq_false_iff_eq.mpr c78
             clear c78
             replace H := Option.bind_eq_some_iff.mp H
             obtain ⟨t159, A790, H⟩ := H
             replace H : (if (ji74) < (t159.length : Int) then ((some (t159.set ((ji74) : Int).toNat (⟨(rd_T59 t159 (ji74)).f0, x12_37⟩ : S59) : List (S59))).bind fun y162 => (if (x13_37.size : Int) = 0 then (if 0 ≤ (wrap64 ((ji74) + 1)) then (if (wrap64 ((ji74) + 1)) ≤ (t159.length : Int) then (if 0 ≤ (wrap64 ((ji74) + 2)) then (if (wrap64 ((ji74) + 2)) ≤ (t159.length : Int) then (diffmatchpatch_DiffMatchPatch_DiffCleanupSemanticLossless.l0 kj37 (y162.eraseIdx ((wrap64 ((ji74) + 1)) : Int).toNat) (wrap64 ((wrap64 ((ji74) - 1)) + 1))) else (none)) else (none)) else (none)) else (none)) else (if 0 ≤ (wrap64 ((ji74) + 1)) then (if (wrap64 ((ji74) + 1)) < (t159.length : Int) then (diffmatchpatch_DiffMatchPatch_DiffCleanupSemanticLossless.l0 kj37 (y162.set ((wrap64 ((ji74) + 1)) : Int).toNat (⟨(rd_T59 y162 (wrap64 ((ji74) + 1))).f0, x13_37⟩ : S59)) (wrap64 ((ji74) + 1))) else (none)) else (none)))) else (none)) = some r := H
             have A79 := Aside0.mk A790
             clear A790
             by_cases c80 : (ji74) < (t159.length : Int)
             case neg =>
              rw [if_neg c80] at H
              exact absurd H (by simp)
             rw [if_pos c80] at H
             have c80b0 : decide ((ji74) < (t159.length : Int)) = true := decide_eq_true c80
             clear c80
             obtain ⟨y162, hy162⟩ : ∃ y_ : List (S59), y_ = (t159.set ((ji74) : Int).toNat (⟨(rd_T59 t159 (ji74)).f0, x12_37⟩ : S59)) := ⟨_, rfl⟩
             replace H : (if (x13_37.size : Int) = 0 then (if 0 ≤ (wrap64 ((ji74) + 1)) then (if (wrap64 ((ji74) + 1)) ≤ (t159.length : Int) then (if 0 ≤ (wrap64 ((ji74) + 2)) then (if (wrap64 ((ji74) + 2)) ≤ (t159.length : Int) then (diffmatchpatch_DiffMatchPatch_DiffCleanupSemanticLossless.l0 kj37 (y162.eraseIdx ((wrap64 ((ji74) + 1)) : Int).toNat) (wrap64 ((wrap64 ((ji74) - 1)) + 1))) else (none)) else (none)) else (none)) else (none)) else (if 0 ≤ (wrap64 ((ji74) + 1)) then (if (wrap64 ((ji74) + 1)) < (t159.length : Int) then (diffmatchpatch_DiffMatchPatch_DiffCleanupSemanticLossless.l0 kj37 (y162.set ((wrap64 ((ji74) + 1)) : Int).toNat (⟨(rd_T59 y162 (wrap64 ((ji74) + 1))).f0, x13_37⟩ : S59)) (wrap64 ((ji74) + 1))) else (none)) else (none))) = some r := by first | (rw [hy162]; with_reducible exact H) | (have H2_ := (Option.bind_some _ _).symm.trans H; rw [hy162]; with_reducible exact H2_) | (have H2_ := (Option.bind_some _ _).symm.trans H; with_reducible exact H2_) | with_reducible exact H | (rw [hy162]; exact H) | exact H
             have Ny162 := Aside0.mk hy162
             clear hy162
             by_cases c82 : (x13_37.size : Int) = 0
             case neg =>
              rw [if_neg c82] at H
              have c82b0 : ((x13_37.size : Int) == 0) = false := beq_eq_false_iff_ne.mpr c82
              have c82b1 : ((x13_37.size : Int) != 0) = true := bne_iff_ne.mpr c82
              obtain ⟨ji97, hji97⟩ : ∃ j_ : Int, (wrap64 ((ji74) + 1)) = j_ := ⟨_, rfl⟩
              replace H : (if 0 ≤ (ji97) then (if (ji97) < (t159.length : Int) then (diffmatchpatch_DiffMatchPatch_DiffCleanupSemanticLossless.l0 kj37 (y162.set ((ji97) : Int).toNat (⟨(rd_T59 y162 (ji97)).f0, x13_37⟩ : S59)) ji97) else (none)) else (none)) = some r := by first | (rw [hji97] at H; exact H) | (simp only [hji97] at H ⊢; exact H)
              (try rw [hji97] at A79)
              have hji97w : (IntKind.i64.wrap ((ji74) + 1)) = ji97 := (i64_w _).trans hji97
              by_cases c98 : 0 ≤ (ji97)
              case neg =>
               rw [if_neg c98] at H
               exact absurd H (by simp)
              rw [if_pos c98] at H
              have c98b0 : decide (0 ≤ (ji97)) = true := decide_eq_true c98
              clear c98
              by_cases c99 : (ji97) < (t159.length : Int)
              case neg =>
               rw [if_neg c99] at H
               exact absurd H (by simp)
              rw [if_pos c99] at H
              have c99b0 : decide ((ji97) < (t159.length : Int)) = true := decide_eq_true c99
              clear c99
              obtain ⟨y174, hy174⟩ : ∃ y_ : List (S59), y_ = (y162.set ((ji97) : Int).toNat (⟨(rd_T59 y162 (ji97)).f0, x13_37⟩ : S59)) := ⟨_, rfl⟩
              replace H : (diffmatchpatch_DiffMatchPatch_DiffCleanupSemanticLossless.l0 kj37 y174 ji97) = some r := by first | (rw [hy174]; with_reducible exact H) | (have H2_ := (Option.bind_some _ _).symm.trans H; rw [hy174]; with_reducible exact H2_) | (have H2_ := (Option.bind_some _ _).symm.trans H; with_reducible exact H2_) | with_reducible exact H | (rw [hy174]; exact H) | exact H
              have Ny174 := Aside0.mk hy174
              clear hy174
              have H' := Aside0.mk H
              clear H
              have p158 : 0 ≤ ((ji74) : Int) := of_decide_eq_true (by first | (with_reducible assumption) | assumption)
              have q158 : (ji74) < (x1_1.length : Int) := of_decide_eq_true (by first | (with_reducible assumption) | assumption)
              obtain ⟨ad158, e158, hx158_0, hx158_1⟩ := at_T59 (Kd.R_reads' HO_1.out).2.2 (ji74) p158 q158
              obtain rfl : ad148 = ad158 := (by injection e158)
              replace p158 := eq_true p158
              replace q158 := eq_true q158
              go_wp2_with (first | ((with_reducible refine gate_callee (f := 49) rfl ?_); refine goesL_ (some 170) rfl rfl Tryd.func49 (by kernel_rfl) rfl #[.slice (some ad148) x1_1.length co5, .int .i64 ji74, .int .i64 1, .slice none 0 0] rfl (by (try simp only [List.map_toArray, List.map_cons, List.map_nil]); first | done | (simp only [hji74]; rfl) | rfl | (simp only [List.length_drop, List.length_take]; rfl)) ?_; (refine (diffmatchpatch_splice.calls (fun k_ => some k_ = (.slice (some ad148) x1_1.length co5 : Value).ownBlock) (.slice (some ad148) x1_1.length co5) x1_1 ji74 1 _ _ ([] : List (S59)) t159 w0 _ ?side1 ?side2 ?side3 ?side4 A79.out).mono ?_); (case side1 => repeat (first | (with_reducible first | exact HB.out | apply below_alloc | apply pw_below_drewN | apply below_drew1) | exact HB.out)); (case side2 => exact Kd.R_tight rfl HO_1.out); (case side3 => exact Kd.C_kept_nil); (case side4 => exact Nat.le_refl _); rintro e w101 ⟨v160, rfl, ho0, hb, hkp⟩; refine ⟨_, rfl, ?_⟩; have n0_ := Aside0.mk (Kd.R_mono (ok' := fun k_ => (P1_ k_ ∨ w.heap.size ≤ k_)) ho0 (fun k_ hk_ => Or.elim hk_ (fun hs_ => (HO_1.out.1 k_ (hs_).symm)) (fun hn_ => (.inr (Nat.le_trans (by first | exact HK.out.1 | exact (show Kept w _ (fun k_ => P1_ k_) from by repeat (first | (with_reducible first | exact HK.out | apply Kept.alloc | apply Kept.drewN | apply Kept.drew) | exact HK.out)).1) hn_))))); have n1_ := Aside0.mk (Kept.then_ (S := (fun k_ => P1_ k_)) (by repeat (first | (with_reducible first | exact HK.out | apply Kept.alloc | apply Kept.drewN | apply Kept.drew) | exact HK.out)) hkp (fun k_ hs_ => (fun e_ => (HO_1.out.1 k_ e_.symm)) hs_)); have n2_ := Aside0.mk (hb); clear HK; clear HB; clear HO_1; have HO161 := n0_; have HK := n1_; have HB := n2_; clear n0_ n1_ n2_; (try clear hb); (try clear hkp); (try clear ho0); have p81 : 0 ≤ ((ji74) : Int) := of_decide_eq_true (by first | (with_reducible assumption) | assumption); have q81 : ((ji74) : Int) < ((t159.length : Int) : Int) := of_decide_eq_true (by first | (with_reducible assumption) | assumption); obtain ⟨go81, co81, eo81, gb81, gl81, cl81, HG81⟩ := Kd.R_form HO161.out (by omega); (first | cases eo81 | (injection eo81 with ea_ en_ ec_; (first | subst ea_ | (injection ea_ with ea_; subst ea_)); subst ec_; clear en_)); have GB81 := Aside0.mk gb81; have GG81 := Aside0.mk HG81; clear gb81 gl81 HG81; have HMgo81 := Aside0.mk (show (P1_ go81 ∨ w.heap.size ≤ go81) from (HO161.out.1 _ rfl)); obtain ⟨ce81, hcl81, hM81, hcc81, hfr81⟩ := Kd.R_elem HO161.out z59 ((ji74) : Int) p81 q81; obtain rfl := k59_openM hM81; have hx81_0 : w101.cell? ⟨go81, ((ji74) : Int).toNat * 2, none⟩ = some (.int .i8 ((rd_T59 t159 (ji74)).f0)) := hcc81 0 _ rfl; have hx81_1 : w101.cell? ⟨go81, ((ji74) : Int).toNat * 2 + 1, none⟩ = some (.string ((rd_T59 t159 (ji74)).f1)) := hcc81 1 _ rfl; have hf81_0 : w101.frozen? ⟨go81, ((ji74) : Int).toNat * 2, none⟩ = false := hfr81 0; have hf81_1 : w101.frozen? ⟨go81, ((ji74) : Int).toNat * 2 + 1, none⟩ = false := hfr81 1; clear hcl81 hcc81 hfr81 hM81; replace p81 := eq_true p81; replace q81 := eq_true q81; have HX102 := Aside0.mk (show Kd.R k59 59 w101 w0.heap.size (fun k_ => (P1_ k_ ∨ w.heap.size ≤ k_)) (.slice (some ⟨go81, 0, none⟩) t159.length co81) t159 from (by (with_reducible repeat (first | apply Kd.R_alloc | apply Kd.R_drewN | apply Kd.R_drew)); exact HO161.out)); obtain ⟨ce102, hcl102, hM102, hcc102, hfr102⟩ := Kd.R_elem HX102.out z59 ((ji74) : Int) (of_decide_eq_true (by first | (with_reducible assumption) | assumption)) (by have h_ : ((ji74) : Int) < ((t159.length : Int) : Int) := of_decide_eq_true (by first | (with_reducible assumption) | assumption); first | exact h_ | (have e_ := (Kd.R_reads' HO161.out).1; omega) | simpa using h_); obtain rfl := k59_openM hM102; have HP102 := Kd.R_seg HX102.out ((ji74) : Int) (of_decide_eq_true (by first | (with_reducible assumption) | assumption)) (by have h_ : ((ji74) : Int) < ((t159.length : Int) : Int) := of_decide_eq_true (by first | (with_reducible assumption) | assumption); first | exact h_ | (have e_ := (Kd.R_reads' HO161.out).1; omega) | simpa using h_) (seg := [.string x12_37]) (j := 1) hcl102 hcc102 (show 2 ≤ 2 from by decide) (x' := (⟨(rd_T59 t159 (ji74)).f0, x12_37⟩ : S59)) (k59_mkM _ _ _ (⟨(rd_T59 t159 (ji74)).f0, x12_37⟩ : S59) ) (fun _ hk => hk); have hx102_1 := hcc102 1 _ rfl; (try simp only [show (k59).sz = 2 from rfl, Nat.mul_one, Nat.add_zero] at hx102_1); have hf102_1 := hfr102 1; (try simp only [show (k59).sz = 2 from rfl, Nat.mul_one, Nat.add_zero] at hf102_1); clear hcl102 hcc102 hfr102 hM102) | ((with_reducible refine gate_store (t := 9) (p := 177) rfl ?_); refine store_event (t := 9) (p := 177) (v := ?vo_w103) (w1 := (w101.setCell ⟨go81, ((ji74) : Int).toNat * 2 + 1, none⟩ (.string x12_37))) ?hg ?ho ?hn ?hr ?_; (case ho => rfl); (case hg => rfl); (case hn => rfl); (case hr => first | (go_simp; done) | (go_simp; rfl)); intro w103 hw; have hg : w101.grownBy w103 (some go81) := (by rw [hw]; exact HP102.2); have hp_ : Kd.R k59 59 w103 w0.heap.size (fun k_ => (P1_ k_ ∨ w.heap.size ≤ k_)) (.slice (some ⟨go81, 0, none⟩) t159.length co81) y162 := (by rw [hw, Ny162.out]; exact HP102.1); clear HP102; have n0_ := Aside0.mk (hp_); have n1_ := Aside0.mk ((by rw [hw]; exact below_set (HB.out) GB81.out : Below w0.heap.size w0 w103)); have n2_ := Aside0.mk (Kept.of_grown (S := (fun k_ => P1_ k_)) hg (by repeat (first | (with_reducible first | exact HK.out | apply Kept.alloc | apply Kept.drewN | apply Kept.drew) | exact HK.out)) (fun k_ e_ => (HO161.out.1 k_ e_))); clear HO161; clear HB; clear HK; have HO161 := n0_; have HB := n1_; have HK := n2_; clear n0_ n1_ n2_; clear hg hw hp_; have p100 : 0 ≤ ((ji97) : Int) := of_decide_eq_true (by first | (with_reducible assumption) | assumption); have q100 : ((ji97) : Int) < ((t159.length : Int) : Int) := of_decide_eq_true (by first | (with_reducible assumption) | assumption); obtain ⟨ce100, hcl100, hM100, hcc100, hfr100⟩ := Kd.R_elem HO161.out z59 ((ji97) : Int) p100 q100; obtain rfl := k59_openM hM100; have hx100_0 : w103.cell? ⟨go81, ((ji97) : Int).toNat * 2, none⟩ = some (.int .i8 ((rd_T59 y162 (ji97)).f0)) := hcc100 0 _ rfl; have hx100_1 : w103.cell? ⟨go81, ((ji97) : Int).toNat * 2 + 1, none⟩ = some (.string ((rd_T59 y162 (ji97)).f1)) := hcc100 1 _ rfl; have hf100_0 : w103.frozen? ⟨go81, ((ji97) : Int).toNat * 2, none⟩ = false := hfr100 0; have hf100_1 : w103.frozen? ⟨go81, ((ji97) : Int).toNat * 2 + 1, none⟩ = false := hfr100 1; clear hcl100 hcc100 hfr100 hM100; replace p100 := eq_true p100; replace q100 := eq_true q100; have HX104 := Aside0.mk (show Kd.R k59 59 w103 w0.heap.size (fun k_ => (P1_ k_ ∨ w.heap.size ≤ k_)) (.slice (some ⟨go81, 0, none⟩) t159.length co81) y162 from (by (with_reducible repeat (first | apply Kd.R_alloc | apply Kd.R_drewN | apply Kd.R_drew)); exact HO161.out)); obtain ⟨ce104, hcl104, hM104, hcc104, hfr104⟩ := Kd.R_elem HX104.out z59 ((ji97) : Int) (of_decide_eq_true (by first | (with_reducible assumption) | assumption)) (by have h_ : ((ji97) : Int) < ((t159.length : Int) : Int) := of_decide_eq_true (by first | (with_reducible assumption) | assumption); first | exact h_ | (have e_ := (Kd.R_reads' HO161.out).1; omega) | simpa using h_); obtain rfl := k59_openM hM104; have HP104 := Kd.R_seg HX104.out ((ji97) : Int) (of_decide_eq_true (by first | (with_reducible assumption) | assumption)) (by have h_ : ((ji97) : Int) < ((t159.length : Int) : Int) := of_decide_eq_true (by first | (with_reducible assumption) | assumption); first | exact h_ | (have e_ := (Kd.R_reads' HO161.out).1; omega) | simpa using h_) (seg := [.string x13_37]) (j := 1) hcl104 hcc104 (show 2 ≤ 2 from by decide) (x' := (⟨(rd_T59 y162 (ji97)).f0, x13_37⟩ : S59)) (k59_mkM _ _ _ (⟨(rd_T59 y162 (ji97)).f0, x13_37⟩ : S59) ) (fun _ hk => hk); have hx104_1 := hcc104 1 _ rfl; (try simp only [show (k59).sz = 2 from rfl, Nat.mul_one, Nat.add_zero] at hx104_1); have hf104_1 := hfr104 1; (try simp only [show (k59).sz = 2 from rfl, Nat.mul_one, Nat.add_zero] at hf104_1); clear hcl104 hcc104 hfr104 hM104) | ((with_reducible refine gate_store (t := 9) (p := 186) rfl ?_); refine store_event (t := 9) (p := 186) (v := ?vo_w105) (w1 := (w103.setCell ⟨go81, ((ji97) : Int).toNat * 2 + 1, none⟩ (.string x13_37))) ?hg ?ho ?hn ?hr ?_; (case ho => rfl); (case hg => rfl); (case hn => rfl); (case hr => first | (go_simp; done) | (go_simp; rfl)); intro w105 hw; have hg : w103.grownBy w105 (some go81) := (by rw [hw]; exact HP104.2); have hp_ : Kd.R k59 59 w105 w0.heap.size (fun k_ => (P1_ k_ ∨ w.heap.size ≤ k_)) (.slice (some ⟨go81, 0, none⟩) t159.length co81) y174 := (by rw [hw, Ny174.out]; exact HP104.1); clear HP104; have n0_ := Aside0.mk (hp_); have n1_ := Aside0.mk ((by rw [hw]; exact below_set (HB.out) GB81.out : Below w0.heap.size w0 w105)); have n2_ := Aside0.mk (Kept.of_grown (S := (fun k_ => P1_ k_)) hg (by repeat (first | (with_reducible first | exact HK.out | apply Kept.alloc | apply Kept.drewN | apply Kept.drew) | exact HK.out)) (fun k_ e_ => (HO161.out.1 k_ e_))); clear HO161; clear HB; clear HK; have HO161 := n0_; have HB := n1_; have HK := n2_; clear n0_ n1_ n2_; clear hg hw hp_))
              go_roundg kj37
              case measure => have := HK1.out; have := HJ3.out; have := HJ22.out; have := HJ37.out; omega
              case rel => exact ⟨(y174), (ji97), (by first | rfl | (simp; done) | (simp only [← hji97] <;> (first | rfl | simp)) | (simp [*]; done)), H', ⟨by have := HK1.out; have := HJ3.out; have := HJ22.out; have := HJ37.out; omega⟩, ⟨by (with_reducible repeat (first | apply Kd.R_alloc | apply Kd.R_drewN | apply Kd.R_drew)); exact HO161.out⟩, ⟨by repeat (first | (with_reducible first | exact HK.out | apply Kept.alloc | apply Kept.drewN | apply Kept.drew) | exact HK.out)⟩, ⟨by repeat (first | (with_reducible first | exact HB.out | apply below_alloc | apply pw_below_drewN | apply below_drew1) | exact HB.out)⟩⟩
             as_aux_lemma =>
              rw [if_pos c82] at H
              have c82b0 : ((x13_37.size : Int) == 0) = true := beq_iff_eq.mpr c82
              have c82b1 : ((x13_37.size : Int) != 0) = false := bne_eq_false_iff_eq.mpr c82
              clear c82
              obtain ⟨ji83, hji83⟩ : ∃ j_ : Int, (wrap64 ((ji74) + 1)) = j_ := ⟨_, rfl⟩
              replace H : (if 0 ≤ (ji83) then (if (ji83) ≤ (t159.length : Int) then (if 0 ≤ (wrap64 ((ji74) + 2)) then (if (wrap64 ((ji74) + 2)) ≤ (t159.length : Int) then (diffmatchpatch_DiffMatchPatch_DiffCleanupSemanticLossless.l0 kj37 (y162.eraseIdx ((ji83) : Int).toNat) (wrap64 ((wrap64 ((ji74) - 1)) + 1))) else (none)) else (none)) else (none)) else (none)) = some r := by first | (rw [hji83] at H; exact H) | (simp only [hji83] at H ⊢; exact H)
              (try rw [hji83] at A79)
              have hji83w : (IntKind.i64.wrap ((ji74) + 1)) = ji83 := (i64_w _).trans hji83
              by_cases c84 : 0 ≤ (ji83)
              case neg =>
               rw [if_neg c84] at H
               exact absurd H (by simp)
              rw [if_pos c84] at H
              have c84b0 := eq_true c84
              have c84b1 : decide (0 ≤ (ji83)) = true := decide_eq_true c84
              clear c84
              by_cases c85 : (ji83) ≤ (t159.length : Int)
              case neg =>
               rw [if_neg c85] at H
               exact absurd H (by simp)
              rw [if_pos c85] at H
              have c85b0 := eq_true c85
              have c85b1 : decide ((ji83) ≤ (t159.length : Int)) = true := decide_eq_true c85
              clear c85
              obtain ⟨y163, hy163⟩ : ∃ y_ : List (S59), y_ = (y162.take ((ji83) : Int).toNat) := ⟨_, rfl⟩
              replace H : (if 0 ≤ (wrap64 ((ji74) + 2)) then (if (wrap64 ((ji74) + 2)) ≤ (t159.length : Int) then (diffmatchpatch_DiffMatchPatch_DiffCleanupSemanticLossless.l0 kj37 (y162.eraseIdx ((ji83) : Int).toNat) (wrap64 ((wrap64 ((ji74) - 1)) + 1))) else (none)) else (none)) = some r := by first | (rw [hy163]; with_reducible exact H) | (have H2_ := (Option.bind_some _ _).symm.trans H; rw [hy163]; with_reducible exact H2_) | (have H2_ := (Option.bind_some _ _).symm.trans H; with_reducible exact H2_) | with_reducible exact H | (rw [hy163]; exact H) | exact H
              have Ny163 := Aside0.mk hy163
              clear hy163
              obtain ⟨ji86, hji86⟩ : ∃ j_ : Int, (wrap64 ((ji74) + 2)) = j_ := ⟨_, rfl⟩
              replace H : (if 0 ≤ (ji86) then (if (ji86) ≤ (t159.length : Int) then (diffmatchpatch_DiffMatchPatch_DiffCleanupSemanticLossless.l0 kj37 (y162.eraseIdx ((ji83) : Int).toNat) (wrap64 ((wrap64 ((ji74) - 1)) + 1))) else (none)) else (none)) = some r := by first | (rw [hji86] at H; exact H) | (simp only [hji86] at H ⊢; exact H)
              (try rw [hji86] at A79)
              have hji86w : (IntKind.i64.wrap ((ji74) + 2)) = ji86 := (i64_w _).trans hji86
              by_cases c87 : 0 ≤ (ji86)
              case neg =>
               rw [if_neg c87] at H
               exact absurd H (by simp)
              rw [if_pos c87] at H
              have c87b0 := eq_true c87
              have c87b1 : decide (0 ≤ (ji86)) = true := decide_eq_true c87
              clear c87
              by_cases c88 : (ji86) ≤ (t159.length : Int)
              case neg =>
               rw [if_neg c88] at H
               exact absurd H (by simp)
              rw [if_pos c88] at H
              have c88b0 := eq_true c88
              have c88b1 : decide ((ji86) ≤ (t159.length : Int)) = true := decide_eq_true c88
              clear c88
              obtain ⟨y167, hy167⟩ : ∃ y_ : List (S59), y_ = (y162.drop ((ji86) : Int).toNat) := ⟨_, rfl⟩
              replace H : (diffmatchpatch_DiffMatchPatch_DiffCleanupSemanticLossless.l0 kj37 (y162.eraseIdx ((ji83) : Int).toNat) (wrap64 ((wrap64 ((ji74) - 1)) + 1))) = some r := by first | (rw [hy167]; with_reducible exact H) | (have H2_ := (Option.bind_some _ _).symm.trans H; rw [hy167]; with_reducible exact H2_) | (have H2_ := (Option.bind_some _ _).symm.trans H; with_reducible exact H2_) | with_reducible exact H | (rw [hy167]; exact H) | exact H
              have Ny167 := Aside0.mk hy167
              clear hy167
              obtain ⟨y171, hy171⟩ : ∃ y_ : List (S59), y_ = (y162.eraseIdx ((ji83) : Int).toNat) := ⟨_, rfl⟩
              replace H : (diffmatchpatch_DiffMatchPatch_DiffCleanupSemanticLossless.l0 kj37 y171 (wrap64 ((wrap64 ((ji74) - 1)) + 1))) = some r := by first | (rw [hy171]; with_reducible exact H) | (have H2_ := (Option.bind_some _ _).symm.trans H; rw [hy171]; with_reducible exact H2_) | (have H2_ := (Option.bind_some _ _).symm.trans H; with_reducible exact H2_) | with_reducible exact H | (rw [hy171]; exact H) | exact H
              have Ny171 := Aside0.mk hy171
              clear hy171
              have H' := Aside0.mk H
              clear H
              have p158 : 0 ≤ ((ji74) : Int) := of_decide_eq_true (by first | (with_reducible assumption) | assumption)
              have q158 : (ji74) < (x1_1.length : Int) := of_decide_eq_true (by first | (with_reducible assumption) | assumption)
              obtain ⟨ad158, e158, hx158_0, hx158_1⟩ := at_T59 (Kd.R_reads' HO_1.out).2.2 (ji74) p158 q158
              obtain rfl : ad148 = ad158 := (by injection e158)
              replace p158 := eq_true p158
              replace q158 := eq_true q158
              try go_wp2_with (first | ((with_reducible refine gate_callee (f := 49) rfl ?_); refine goesL_ (some 170) rfl rfl Tryd.func49 (by kernel_rfl) rfl #[.slice (some ad148) x1_1.length co5, .int .i64 ji74, .int .i64 1, .slice none 0 0] rfl (by (try simp only [List.map_toArray, List.map_cons, List.map_nil]); first | done | (simp only [hji74]; rfl) | rfl | (simp only [List.length_drop, List.length_take]; rfl)) ?_; (refine (diffmatchpatch_splice.calls (fun k_ => some k_ = (.slice (some ad148) x1_1.length co5 : Value).ownBlock) (.slice (some ad148) x1_1.length co5) x1_1 ji74 1 _ _ ([] : List (S59)) t159 w0 _ ?side1 ?side2 ?side3 ?side4 A79.out).mono ?_); (case side1 => repeat (first | (with_reducible first | exact HB.out | apply below_alloc | apply pw_below_drewN | apply below_drew1) | exact HB.out)); (case side2 => exact Kd.R_tight rfl HO_1.out); (case side3 => exact Kd.C_kept_nil); (case side4 => exact Nat.le_refl _); rintro e w89 ⟨v160, rfl, ho0, hb, hkp⟩; refine ⟨_, rfl, ?_⟩; have n0_ := Aside0.mk (Kd.R_mono (ok' := fun k_ => (P1_ k_ ∨ w.heap.size ≤ k_)) ho0 (fun k_ hk_ => Or.elim hk_ (fun hs_ => (HO_1.out.1 k_ (hs_).symm)) (fun hn_ => (.inr (Nat.le_trans (by first | exact HK.out.1 | exact (show Kept w _ (fun k_ => P1_ k_) from by repeat (first | (with_reducible first | exact HK.out | apply Kept.alloc | apply Kept.drewN | apply Kept.drew) | exact HK.out)).1) hn_))))); have n1_ := Aside0.mk (Kept.then_ (S := (fun k_ => P1_ k_)) (by repeat (first | (with_reducible first | exact HK.out | apply Kept.alloc | apply Kept.drewN | apply Kept.drew) | exact HK.out)) hkp (fun k_ hs_ => (fun e_ => (HO_1.out.1 k_ e_.symm)) hs_)); have n2_ := Aside0.mk (hb); clear HK; clear HB; clear HO_1; have HO161 := n0_; have HK := n1_; have HB := n2_; clear n0_ n1_ n2_; (try clear hb); (try clear hkp); (try clear ho0); have p81 : 0 ≤ ((ji74) : Int) := of_decide_eq_true (by first | (with_reducible assumption) | assumption); have q81 : ((ji74) : Int) < ((t159.length : Int) : Int) := of_decide_eq_true (by first | (with_reducible assumption) | assumption); obtain ⟨go81, co81, eo81, gb81, gl81, cl81, HG81⟩ := Kd.R_form HO161.out (by omega); (first | cases eo81 | (injection eo81 with ea_ en_ ec_; (first | subst ea_ | (injection ea_ with ea_; subst ea_)); subst ec_; clear en_)); have GB81 := Aside0.mk gb81; have GG81 := Aside0.mk HG81; clear gb81 gl81 HG81; have HMgo81 := Aside0.mk (show (P1_ go81 ∨ w.heap.size ≤ go81) from (HO161.out.1 _ rfl)); obtain ⟨ce81, hcl81, hM81, hcc81, hfr81⟩ := Kd.R_elem HO161.out z59 ((ji74) : Int) p81 q81; obtain rfl := k59_openM hM81; have hx81_0 : w89.cell? ⟨go81, ((ji74) : Int).toNat * 2, none⟩ = some (.int .i8 ((rd_T59 t159 (ji74)).f0)) := hcc81 0 _ rfl; have hx81_1 : w89.cell? ⟨go81, ((ji74) : Int).toNat * 2 + 1, none⟩ = some (.string ((rd_T59 t159 (ji74)).f1)) := hcc81 1 _ rfl; have hf81_0 : w89.frozen? ⟨go81, ((ji74) : Int).toNat * 2, none⟩ = false := hfr81 0; have hf81_1 : w89.frozen? ⟨go81, ((ji74) : Int).toNat * 2 + 1, none⟩ = false := hfr81 1; clear hcl81 hcc81 hfr81 hM81; replace p81 := eq_true p81; replace q81 := eq_true q81; have HX90 := Aside0.mk (show Kd.R k59 59 w89 w0.heap.size (fun k_ => (P1_ k_ ∨ w.heap.size ≤ k_)) (.slice (some ⟨go81, 0, none⟩) t159.length co81) t159 from (by (with_reducible repeat (first | apply Kd.R_alloc | apply Kd.R_drewN | apply Kd.R_drew)); exact HO161.out)); obtain ⟨ce90, hcl90, hM90, hcc90, hfr90⟩ := Kd.R_elem HX90.out z59 ((ji74) : Int) (of_decide_eq_true (by first | (with_reducible assumption) | assumption)) (by have h_ : ((ji74) : Int) < ((t159.length : Int) : Int) := of_decide_eq_true (by first | (with_reducible assumption) | assumption); first | exact h_ | (have e_ := (Kd.R_reads' HO161.out).1; omega) | simpa using h_); obtain rfl := k59_openM hM90; have HP90 := Kd.R_seg HX90.out ((ji74) : Int) (of_decide_eq_true (by first | (with_reducible assumption) | assumption)) (by have h_ : ((ji74) : Int) < ((t159.length : Int) : Int) := of_decide_eq_true (by first | (with_reducible assumption) | assumption); first | exact h_ | (have e_ := (Kd.R_reads' HO161.out).1; omega) | simpa using h_) (seg := [.string x12_37]) (j := 1) hcl90 hcc90 (show 2 ≤ 2 from by decide) (x' := (⟨(rd_T59 t159 (ji74)).f0, x12_37⟩ : S59)) (k59_mkM _ _ _ (⟨(rd_T59 t159 (ji74)).f0, x12_37⟩ : S59) ) (fun _ hk => hk); have hx90_1 := hcc90 1 _ rfl; (try simp only [show (k59).sz = 2 from rfl, Nat.mul_one, Nat.add_zero] at hx90_1); have hf90_1 := hfr90 1; (try simp only [show (k59).sz = 2 from rfl, Nat.mul_one, Nat.add_zero] at hf90_1); clear hcl90 hcc90 hfr90 hM90) | ((with_reducible refine gate_store (t := 9) (p := 177) rfl ?_); refine store_event (t := 9) (p := 177) (v := ?vo_w91) (w1 := (w89.setCell ⟨go81, ((ji74) : Int).toNat * 2 + 1, none⟩ (.string x12_37))) ?hg ?ho ?hn ?hr ?_; (case ho => rfl); (case hg => rfl); (case hn => rfl); (case hr => first | (go_simp; done) | (go_simp; rfl)); intro w91 hw; have hg : w89.grownBy w91 (some go81) := (by rw [hw]; exact HP90.2); have hp_ : Kd.R k59 59 w91 w0.heap.size (fun k_ => (P1_ k_ ∨ w.heap.size ≤ k_)) (.slice (some ⟨go81, 0, none⟩) t159.length co81) y162 := (by rw [hw, Ny162.out]; exact HP90.1); clear HP90; have n0_ := Aside0.mk (hp_); have n1_ := Aside0.mk ((by rw [hw]; exact below_set (HB.out) GB81.out : Below w0.heap.size w0 w91)); have n2_ := Aside0.mk (Kept.of_grown (S := (fun k_ => P1_ k_)) hg (by repeat (first | (with_reducible first | exact HK.out | apply Kept.alloc | apply Kept.drewN | apply Kept.drew) | exact HK.out)) (fun k_ e_ => (HO161.out.1 k_ e_))); clear HO161; clear HB; clear HK; have HO161 := n0_; have HB := n1_; have HK := n2_; clear n0_ n1_ n2_; clear hg hw hp_))
              have n0_ := Aside0.mk (Kd.R_drew HO161.out)
              have n1_ := Aside0.mk (Kept.drew HK.out)
              have n2_ := Aside0.mk (below_drew1 HB.out)
              clear HO161
              clear HK
              clear HB
              have HO161 := n0_
              have HK := n1_
              have HB := n2_
              clear n0_ n1_ n2_
              have hlx93 := (Kd.R_reads' HO161.out).1
              have q93 : ((ji83) : Int) ≤ ((t159.length : Int) : Int) := of_decide_eq_true (by first | (with_reducible assumption) | assumption)
              obtain ⟨i093, hi093, _, hsz93, _⟩ := info_parts info59
              have hroom93 : t159.length ≤ co81 := (Kd.R_reads' HO161.out).2.1
              have hroomc93 : y162.length ≤ co81 := (by rw [← hlx93]; exact hroom93)
              have hC93 : Kd.C k59 _ (some ⟨go81, 0, none⟩) y162.length y162 := (Kd.R_reads' HO161.out).2.2
              have hcut93 := cut_to (P := Tryd.prog) 44 59 .i64 Tryd.underlying44 hi093 (some ⟨go81, 0, none⟩) t159.length co81 (ji83) (of_decide_eq_true (by first | (with_reducible assumption) | assumption)) q93 hroom93
              have hr93 := Kd.C_take (m := ((ji83) : Int).toNat) hC93 (by omega)
              have hy93 : y163.length = ((ji83) : Int).toNat := (by rw [Ny163.out, List.length_take]; omega)
              rw [← Ny163.out] at hr93
              rw [← hy93] at hcut93
              have HR166 := Aside0.mk hr93
              have HC166 := Aside0.mk (show y163.length ≤ co81 from by omega)
              clear hr93 hC93 hroom93 hi093 hsz93 hroomc93
              have KY93 := Aside0.mk hy93
              clear hy93
              have KE93 := Aside0.mk hlx93
              have KL93 := Aside0.mk (show ((ji83) : Int).toNat ≤ y162.length from by omega)
              clear hlx93
              replace q93 := eq_true q93
              have hlx94 := (Kd.R_reads' HO161.out).1
              have q94 : ((ji86) : Int) ≤ ((t159.length : Int) : Int) := of_decide_eq_true (by first | (with_reducible assumption) | assumption)
              obtain ⟨i094, hi094, _, hsz94, _⟩ := info_parts info59
              have hroom94 : t159.length ≤ co81 := (Kd.R_reads' HO161.out).2.1
              have hroomc94 : y162.length ≤ co81 := (by rw [← hlx94]; exact hroom94)
              have hC94 : Kd.C k59 _ (some ⟨go81, 0, none⟩) y162.length y162 := (Kd.R_reads' HO161.out).2.2
              have q094 : (0 : Int) ≤ ((ji86) : Int) := of_decide_eq_true (by first | (with_reducible assumption) | assumption)
              have hcut94 := cut_from (P := Tryd.prog) 44 59 .i64 Tryd.underlying44 hi094 2 hsz94 (some ⟨go81, 0, none⟩) t159.length co81 (ji86) q094 q94
              have hr94 := Kd.C_drop (m := ((ji86) : Int).toNat) (c := co81) hC94 (by omega) hroomc94
              obtain ⟨A94, hA94⟩ : ∃ A1, A1 = (if co81 = ((ji86) : Int).toNat then (some ⟨go81, 0, none⟩) else ((some ⟨go81, 0, none⟩) : Option Addr).map (·.add (((ji86) : Int).toNat * 2))) := ⟨_, rfl⟩
              obtain ⟨c94, hc94⟩ : ∃ c1, c1 = co81 - ((ji86) : Int).toNat := ⟨_, rfl⟩
              have hy94 : y167.length = t159.length - ((ji86) : Int).toNat := (by rw [Ny167.out, List.length_drop] <;> omega)
              rw [show (y162).drop ((ji86) : Int).toNat = y167 from Ny167.out.symm] at hr94
              replace hr94 : Kd.C k59 _ A94 y167.length y167 := (by rw [hA94]; exact hr94)
              rw [← hy94, ← hA94, ← hc94] at hcut94
              have HR170 := Aside0.mk hr94
              have HC170 := Aside0.mk (show y167.length ≤ c94 from by rw [hy94, hc94]; exact Nat.sub_le_sub_right hroom94 _)
              clear hr94 hC94 hroom94 hi094 hsz94 hc94 hroomc94
              have KY94 := Aside0.mk hy94
              have KA94 := Aside0.mk hA94
              clear hy94 hA94
              have KE94 := Aside0.mk hlx94
              have KL94 := Aside0.mk (show ((ji86) : Int).toNat ≤ y162.length from by omega)
              clear hlx94
              replace q94 := eq_true q94
              refine start_ (n := 10) (S := fun w' => True) (ds := []) #[false, false, false, false, false, false, false, false, false, false] (by kernel_rfl) rfl rfl trivial (fun hHeld => ?_); refine with_tabW diffmatchpatch_DiffMatchPatch_DiffCleanupSemanticLossless.tab37 diffmatchpatch_DiffMatchPatch_DiffCleanupSemanticLossless.bits37 (fun HT_ HW_ => ?_)
              generalize w91.drew = w92 at HO161 HK HB HR166 HR170 hHeld ⊢
              refine pure_ (i := 0) (N := some 187) (v := ?_) (a' := ?_) (tf 1 10) rfl rfl (any_of HT_.out (by kernel_rfl)) (fun _ _ _ h => h) (Or.inl ⟨by rfl, ?_⟩) ?_ ?_
              rotate_left
              ·(intro w'; go_simp; with_reducible rfl)
              rotate_left
              ·(simp only [Act.put, List.setIfInBounds_toArray, List.set_cons_zero, List.set_cons_succ, i64_w, i32_w]; rfl)
              refine pure_ (i := 1) (N := some 188) (v := ?_) (a' := ?_) (tf 2 10) rfl rfl (any_of HT_.out (by kernel_rfl)) (fun _ _ _ h => h) (Or.inl ⟨by rfl, ?_⟩) ?_ ?_
              rotate_left
              ·(intro w'; go_simp; with_reducible rfl)
              rotate_left
              ·(simp only [Act.put, List.setIfInBounds_toArray, List.set_cons_zero, List.set_cons_succ, i64_w, i32_w]; rfl)
              refine pure_ (i := 2) (N := some 189) (v := ?_) (a' := ?_) (tf 3 10) rfl rfl (any_of HT_.out (by kernel_rfl)) (fun _ _ _ h => h) (Or.inl ⟨by rfl, ?_⟩) ?_ ?_
              rotate_left
              ·(intro w'; go_simp; with_reducible rfl)
              rotate_left
              ·(simp only [Act.put, List.setIfInBounds_toArray, List.set_cons_zero, List.set_cons_succ, i64_w, i32_w]; rfl)
              refine pure_ (i := 3) (N := some 190) (v := ?_) (a' := ?_) (tf 4 10) rfl rfl (any_of HT_.out (by kernel_rfl)) (fun _ _ _ h => h) (Or.inl ⟨by rfl, ?_⟩) ?_ ?_
              rotate_left
              ·(intro w'; go_simp; with_reducible rfl)
              rotate_left
              ·(simp only [Act.put, List.setIfInBounds_toArray, List.set_cons_zero, List.set_cons_succ, i64_w, i32_w]; rfl)
              refine pure_ (i := 4) (N := some 191) (v := ?_) (a' := ?_) (tf 5 10) rfl rfl (any_of HT_.out (by kernel_rfl)) (fun _ _ _ h => h) (Or.inl ⟨by rfl, ?_⟩) ?_ ?_
              rotate_left
              ·(intro w'; go_simp; with_reducible rfl)
              rotate_left
              ·(simp only [Act.put, List.setIfInBounds_toArray, List.set_cons_zero, List.set_cons_succ, i64_w, i32_w]; rfl)
              refine pure_ (i := 5) (N := some 192) (v := ?_) (a' := ?_) (tf 6 10) rfl rfl (any_of HT_.out (by kernel_rfl)) (fun _ _ _ h => h) (Or.inl ⟨by rfl, ?_⟩) ?_ ?_
              rotate_left
              ·(intro w'; go_simp; with_reducible rfl)
              rotate_left
              ·(simp only [Act.put, List.setIfInBounds_toArray, List.set_cons_zero, List.set_cons_succ, i64_w, i32_w]; rfl)
              refine pure_ (i := 6) (N := some 193) (v := ?_) (a' := ?_) (tf 7 10) rfl rfl (any_of HT_.out (by kernel_rfl)) (fun _ _ _ h => h) (Or.inl ⟨by rfl, ?_⟩) ?_ ?_
              rotate_left
              ·(intro w'; go_simp; with_reducible rfl)
              rotate_left
              ·(simp only [Act.put, List.setIfInBounds_toArray, List.set_cons_zero, List.set_cons_succ, i64_w, i32_w]; rfl)
              refine pure_ (i := 7) (N := some 194) (v := ?_) (a' := ?_) (tf 8 10) rfl rfl (any_of HT_.out (by kernel_rfl)) (fun _ _ _ h => h) (Or.inl ⟨by rfl, ?_⟩) ?_ ?_
              rotate_left
              ·(intro w'; go_simp; with_reducible rfl)
              rotate_left
              ·(simp only [Act.put, List.setIfInBounds_toArray, List.set_cons_zero, List.set_cons_succ, i64_w, i32_w]; rfl)
              refine one_ (i := 8) (N := some 195) #[true, true, true, true, true, true, true, true, true, false] rfl rfl (one_of HT_.out (by kernel_rfl)) (by decide) (fun K hK => ?_)
              have hj_ : 0 ≤ ((ji83) : Int) := of_decide_eq_true (by first | (with_reducible assumption) | assumption)
              have hl_ : ((ji86) : Int) ≤ (t159.length : Int) := of_decide_eq_true (by first | (with_reducible assumption) | assumption)
              have hh_ : ((ji83) : Int) ≤ (t159.length : Int) := of_decide_eq_true (by first | (with_reducible assumption) | assumption)
              have hb_ := (Kd.R_reads' HO161.out).2.2.2.1
              have h0_ : (0 : Int) ≤ ((ji86) : Int) := of_decide_eq_true (by first | (with_reducible assumption) | assumption)
              have hy1_ := KY93.out
              have hk_ : ((ji86) : Int).toNat = y163.length + 1 := (by have hw_ : ((ji86) : Int) = (ji83) + 1 := (by have h00_ := h0_; (try rw [← hji86] at h00_); (try rw [← hji86]); (try rw [← hji83]); unfold wrap64 at h00_ ⊢; omega); rw [hw_]; omega)
              refine Kd.R_delete_step k59 (w0 := w0) w0.heap.size (by rfl) (.tmp 190) (.tmp 194) 44 59 rfl Tryd.underlying44 (by kernel_rfl) (g := go81) (n := t159.length) (c := co81) (k := y163.length) rfl rfl ?hA ?hm (by (with_reducible repeat (first | apply Kd.R_alloc | apply Kd.R_drewN | apply Kd.R_drew)); exact HO161.out) ?hk (by repeat (first | (with_reducible first | exact HB.out | apply below_alloc | apply pw_below_drewN | apply below_drew1) | exact HB.out)) (below_size (by repeat (first | (with_reducible first | exact HB.out | apply below_alloc | apply pw_below_drewN | apply below_drew1) | exact HB.out))) ?_
              (case hA => have ha_ := KA94.out; rw [hk_] at ha_; exact ha_)
              (case hm => have ha_ := KY94.out; omega)
              (case hk => omega)
              intro w95 ho hb hg
              clear hj_ hl_ hh_ hb_ hk_ h0_
              rw [hy1_, ← Ny171.out] at ho
              clear hy1_
              have hn_ : t159.length - 1 = y171.length := (by have := (Kd.R_reads' ho).1; omega)
              rw [hn_] at ho ⊢
              clear hn_
              have n0_ := Aside0.mk (ho)
              have n1_ := Aside0.mk (hb)
              have n2_ := Aside0.mk (Kept.of_grown (S := (fun k_ => P1_ k_)) hg (by repeat (first | (with_reducible first | exact HK.out | apply Kept.alloc | apply Kept.drewN | apply Kept.drew) | exact HK.out)) (fun k_ e_ => (HO161.out.1 k_ e_)))
              clear HO161
              clear HB
              clear HK
              have HO161 := n0_
              have HB := n1_
              have HK := n2_
              clear n0_ n1_ n2_
              clear ho hb hg
              refine hK.out _ _ trivial (fun hHeld => ?_)
              clear hK K
              refine norm_ (a' := ?_) ?_ ?_
              rotate_left
              ·show Act.put _ (some 195) _ = _
               simp only [Act.put, List.setIfInBounds_toArray, List.set_cons_zero, List.set_cons_succ, i64_w, i32_w]
               rfl
              refine pure_ (i := 9) (N := some 1) (v := ?_) (a' := ?_) (tf 10 10) rfl rfl (any_of HT_.out (by kernel_rfl)) (fun _ _ _ h => h) (Or.inl ⟨by rfl, ?_⟩) ?_ ?_
              rotate_left
              ·(intro w'; go_simp; with_reducible rfl)
              rotate_left
              ·(simp only [Act.put, List.setIfInBounds_toArray, List.set_cons_zero, List.set_cons_succ, i64_w, i32_w]; rfl)
              refine done_ (done_of HT_.out (by kernel_rfl)) ?_
              try go_wp2
              go_roundg kj37
              case measure => have := HK1.out; have := HJ3.out; have := HJ22.out; have := HJ37.out; omega
              case rel => exact ⟨(y171), (wrap64 ((wrap64 ((ji74) - 1)) + 1)), (by first | rfl | (simp; done) | (simp only [← hji74] <;> (first | rfl | simp)) | (simp [*]; done)), H', ⟨by have := HK1.out; have := HJ3.out; have := HJ22.out; have := HJ37.out; omega⟩, ⟨by (with_reducible repeat (first | apply Kd.R_alloc | apply Kd.R_drewN | apply Kd.R_drew)); exact HO161.out⟩, ⟨by repeat (first | (with_reducible first | exact HK.out | apply Kept.alloc | apply Kept.drewN | apply Kept.drew) | exact HK.out)⟩, ⟨by repeat (first | (with_reducible first | exact HB.out | apply below_alloc | apply pw_below_drewN | apply below_drew1) | exact HB.out)⟩⟩
           as_aux_lemma =>
            rw [if_neg c78] at H
            have c78b0 : ((x11_37.size : Int) == 0) = false := beq_eq_false_iff_ne.mpr c78
            have c78b1 : ((x11_37.size : Int) != 0) = true := bne_iff_ne.mpr c78
            obtain ⟨y175, hy175⟩ : ∃ y_ : List (S59), y_ = (x1_1.set ((ji74) : Int).toNat (⟨(rd_T59 x1_1 (ji74)).f0, x11_37⟩ : S59)) := ⟨_, rfl⟩
            replace H : (if 0 ≤ x5_1 then (if x5_1 < (x1_1.length : Int) then ((some (y175.set (x5_1 : Int).toNat (⟨(rd_T59 y175 x5_1).f0, x12_37⟩ : S59) : List (S59))).bind fun y176 => (if (x13_37.size : Int) = 0 then (if 0 ≤ (wrap64 (x5_1 + 1)) then (if (wrap64 (x5_1 + 1)) ≤ (x1_1.length : Int) then (if 0 ≤ (wrap64 (x5_1 + 2)) then (if (wrap64 (x5_1 + 2)) ≤ (x1_1.length : Int) then (diffmatchpatch_DiffMatchPatch_DiffCleanupSemanticLossless.l0 kj37 (y176.eraseIdx ((wrap64 (x5_1 + 1)) : Int).toNat) (wrap64 ((ji74) + 1))) else (none)) else (none)) else (none)) else (none)) else (if 0 ≤ (wrap64 (x5_1 + 1)) then (if (wrap64 (x5_1 + 1)) < (x1_1.length : Int) then (diffmatchpatch_DiffMatchPatch_DiffCleanupSemanticLossless.l0 kj37 (y176.set ((wrap64 (x5_1 + 1)) : Int).toNat (⟨(rd_T59 y176 (wrap64 (x5_1 + 1))).f0, x13_37⟩ : S59)) (wrap64 (x5_1 + 1))) else (none)) else (none)))) else (none)) else (none)) = some r := by first | (rw [hy175]; with_reducible exact H) | (have H2_ := (Option.bind_some _ _).symm.trans H; rw [hy175]; with_reducible exact H2_) | (have H2_ := (Option.bind_some _ _).symm.trans H; with_reducible exact H2_) | with_reducible exact H | (rw [hy175]; exact H) | exact H
            have Ny175 := Aside0.mk hy175
            clear hy175
            by_cases c107 : 0 ≤ x5_1
            case neg =>
             rw [if_neg c107] at H
             exact absurd H (by simp)
            rw [if_pos c107] at H
            have c107b0 : decide (0 ≤ x5_1) = true := decide_eq_true c107
            clear c107
            by_cases c108 : x5_1 < (x1_1.length : Int)
            case neg =>
             rw [if_neg c108] at H
             exact absurd H (by simp)
            rw [if_pos c108] at H
            have c108b0 : decide (x5_1 < (x1_1.length : Int)) = true := decide_eq_true c108
            clear c108
            obtain ⟨y176, hy176⟩ : ∃ y_ : List (S59), y_ = (y175.set (x5_1 : Int).toNat (⟨(rd_T59 y175 x5_1).f0, x12_37⟩ : S59)) := ⟨_, rfl⟩
            replace H : (if (x13_37.size : Int) = 0 then (if 0 ≤ (wrap64 (x5_1 + 1)) then (if (wrap64 (x5_1 + 1)) ≤ (x1_1.length : Int) then (if 0 ≤ (wrap64 (x5_1 + 2)) then (if (wrap64 (x5_1 + 2)) ≤ (x1_1.length : Int) then (diffmatchpatch_DiffMatchPatch_DiffCleanupSemanticLossless.l0 kj37 (y176.eraseIdx ((wrap64 (x5_1 + 1)) : Int).toNat) (wrap64 ((ji74) + 1))) else (none)) else (none)) else (none)) else (none)) else (if 0 ≤ (wrap64 (x5_1 + 1)) then (if (wrap64 (x5_1 + 1)) < (x1_1.length : Int) then (diffmatchpatch_DiffMatchPatch_DiffCleanupSemanticLossless.l0 kj37 (y176.set ((wrap64 (x5_1 + 1)) : Int).toNat (⟨(rd_T59 y176 (wrap64 (x5_1 + 1))).f0, x13_37⟩ : S59)) (wrap64 (x5_1 + 1))) else (none)) else (none))) = some r := by first | (rw [hy176]; with_reducible exact H) | (have H2_ := (Option.bind_some _ _).symm.trans H; rw [hy176]; with_reducible exact H2_) | (have H2_ := (Option.bind_some _ _).symm.trans H; with_reducible exact H2_) | with_reducible exact H | (rw [hy176]; exact H) | exact H
            have Ny176 := Aside0.mk hy176
            clear hy176
            by_cases c110 : (x13_37.size : Int) = 0
            case neg =>
             rw [if_neg c110] at H
             have c110b0 : ((x13_37.size : Int) == 0) = false := beq_eq_false_iff_ne.mpr c110
             have c110b1 : ((x13_37.size : Int) != 0) = true := bne_iff_ne.mpr c110
             obtain ⟨ji126, hji126⟩ : ∃ j_ : Int, (wrap64 (x5_1 + 1)) = j_ := ⟨_, rfl⟩
             replace H : (if 0 ≤ (ji126) then (if (ji126) < (x1_1.length : Int) then (diffmatchpatch_DiffMatchPatch_DiffCleanupSemanticLossless.l0 kj37 (y176.set ((ji126) : Int).toNat (⟨(rd_T59 y176 (ji126)).f0, x13_37⟩ : S59)) ji126) else (none)) else (none)) = some r := by first | (rw [hji126] at H; exact H) | (simp only [hji126] at H ⊢; exact H)
             have hji126w : (IntKind.i64.wrap (x5_1 + 1)) = ji126 := (i64_w _).trans hji126
             (try rw [hji126] at hji19w)
             obtain rfl : ji126 = ji19 := hji126.symm.trans hji19
             by_cases c127 : 0 ≤ (ji126)
             case neg =>
              rw [if_neg c127] at H
              exact absurd H (by simp)
             rw [if_pos c127] at H
             have c127b0 : decide (0 ≤ (ji126)) = true := decide_eq_true c127
             clear c127
             by_cases c128 : (ji126) < (x1_1.length : Int)
             case neg =>
              rw [if_neg c128] at H
              exact absurd H (by simp)
             rw [if_pos c128] at H
             have c128b0 : decide ((ji126) < (x1_1.length : Int)) = true := decide_eq_true c128
             clear c128
             obtain ⟨y188, hy188⟩ : ∃ y_ : List (S59), y_ = (y176.set ((ji126) : Int).toNat (⟨(rd_T59 y176 (ji126)).f0, x13_37⟩ : S59)) := ⟨_, rfl⟩
             replace H : (diffmatchpatch_DiffMatchPatch_DiffCleanupSemanticLossless.l0 kj37 y188 ji126) = some r := by first | (rw [hy188]; with_reducible exact H) | (have H2_ := (Option.bind_some _ _).symm.trans H; rw [hy188]; with_reducible exact H2_) | (have H2_ := (Option.bind_some _ _).symm.trans H; with_reducible exact H2_) | with_reducible exact H | (rw [hy188]; exact H) | exact H
             have Ny188 := Aside0.mk hy188
             clear hy188
             have H' := Aside0.mk H
             clear H
             have p158 : 0 ≤ ((ji74) : Int) := of_decide_eq_true (by first | (with_reducible assumption) | assumption)
             have q158 : (ji74) < (x1_1.length : Int) := of_decide_eq_true (by first | (with_reducible assumption) | assumption)
             obtain ⟨ad158, e158, hx158_0, hx158_1⟩ := at_T59 (Kd.R_reads' HO_1.out).2.2 (ji74) p158 q158
             obtain rfl : ad148 = ad158 := (by injection e158)
             replace p158 := eq_true p158
             replace q158 := eq_true q158
             have p106 : 0 ≤ ((ji74) : Int) := of_decide_eq_true (by first | (with_reducible assumption) | assumption)
             have q106 : ((ji74) : Int) < ((x1_1.length : Int) : Int) := of_decide_eq_true (by first | (with_reducible assumption) | assumption)
             obtain ⟨go106, co106, eo106, gb106, gl106, cl106, HG106⟩ := Kd.R_form HO_1.out (by omega)
             (first | cases eo106 | (injection eo106 with ea_ en_ ec_; (first | subst ea_ | (injection ea_ with ea_; subst ea_)); subst ec_; clear en_))
             have GB106 := Aside0.mk gb106
             have GG106 := Aside0.mk HG106
             clear gb106 gl106 HG106
             have HMgo106 := Aside0.mk (show (P1_ go106 ∨ w.heap.size ≤ go106) from (HO_1.out.1 _ rfl))
             (first | simp only [add_plain] at hx158_0 | skip)
             (first | simp only [add_plain] at hx158_1 | skip)
             obtain ⟨ce106, hcl106, hM106, hcc106, hfr106⟩ := Kd.R_elem HO_1.out z59 ((ji74) : Int) p106 q106
             obtain rfl := k59_openM hM106
             have hx106_0 : wc.cell? ⟨go106, ((ji74) : Int).toNat * 2, none⟩ = some (.int .i8 ((rd_T59 x1_1 (ji74)).f0)) := hcc106 0 _ rfl
             have hx106_1 : wc.cell? ⟨go106, ((ji74) : Int).toNat * 2 + 1, none⟩ = some (.string ((rd_T59 x1_1 (ji74)).f1)) := hcc106 1 _ rfl
             have hf106_0 : wc.frozen? ⟨go106, ((ji74) : Int).toNat * 2, none⟩ = false := hfr106 0
             have hf106_1 : wc.frozen? ⟨go106, ((ji74) : Int).toNat * 2 + 1, none⟩ = false := hfr106 1
             clear hcl106 hcc106 hfr106 hM106
             replace p106 := eq_true p106
             replace q106 := eq_true q106
             have HX130 := Aside0.mk (show Kd.R k59 59 wc w0.heap.size (fun k_ => (P1_ k_ ∨ w.heap.size ≤ k_)) (.slice (some ⟨go106, 0, none⟩) x1_1.length co5) x1_1 from (by (with_reducible repeat (first | apply Kd.R_alloc | apply Kd.R_drewN | apply Kd.R_drew)); exact HO_1.out))
             obtain ⟨ce130, hcl130, hM130, hcc130, hfr130⟩ := Kd.R_elem HX130.out z59 ((ji74) : Int) (of_decide_eq_true (by first | (with_reducible assumption) | assumption)) (by have h_ : ((ji74) : Int) < ((x1_1.length : Int) : Int) := of_decide_eq_true (by first | (with_reducible assumption) | assumption); first | exact h_ | (have e_ := (Kd.R_reads' HO_1.out).1; omega) | simpa using h_)
             obtain rfl := k59_openM hM130
             have HP130 := Kd.R_seg HX130.out ((ji74) : Int) (of_decide_eq_true (by first | (with_reducible assumption) | assumption)) (by have h_ : ((ji74) : Int) < ((x1_1.length : Int) : Int) := of_decide_eq_true (by first | (with_reducible assumption) | assumption); first | exact h_ | (have e_ := (Kd.R_reads' HO_1.out).1; omega) | simpa using h_) (seg := [.string x11_37]) (j := 1) hcl130 hcc130 (show 2 ≤ 2 from by decide) (x' := (⟨(rd_T59 x1_1 (ji74)).f0, x11_37⟩ : S59)) (k59_mkM _ _ _ (⟨(rd_T59 x1_1 (ji74)).f0, x11_37⟩ : S59) ) (fun _ hk => hk)
             have hx130_1 := hcc130 1 _ rfl
             (try simp only [show (k59).sz = 2 from rfl, Nat.mul_one, Nat.add_zero] at hx130_1)
             have hf130_1 := hfr130 1
             (try simp only [show (k59).sz = 2 from rfl, Nat.mul_one, Nat.add_zero] at hf130_1)
             clear hcl130 hcc130 hfr130 hM130
             go_wp2_with (first | ((with_reducible refine gate_store (t := 9) (p := 166) rfl ?_); refine store_event (t := 9) (p := 166) (v := ?vo_w131) (w1 := (wc.setCell ⟨go106, ((ji74) : Int).toNat * 2 + 1, none⟩ (.string x11_37))) ?hg ?ho ?hn ?hr ?_; (case ho => rfl); (case hg => rfl); (case hn => rfl); (case hr => first | (go_simp; done) | (go_simp; rfl)); intro w131 hw; have hg : wc.grownBy w131 (some go106) := (by rw [hw]; exact HP130.2); have hp_ : Kd.R k59 59 w131 w0.heap.size (fun k_ => (P1_ k_ ∨ w.heap.size ≤ k_)) (.slice (some ⟨go106, 0, none⟩) x1_1.length co5) y175 := (by rw [hw, Ny175.out]; exact HP130.1); clear HP130; have n0_ := Aside0.mk (hp_); have n1_ := Aside0.mk ((by rw [hw]; exact below_set (HB.out) GB106.out : Below w0.heap.size w0 w131)); have n2_ := Aside0.mk (Kept.of_grown (S := (fun k_ => P1_ k_)) hg (by repeat (first | (with_reducible first | exact HK.out | apply Kept.alloc | apply Kept.drewN | apply Kept.drew) | exact HK.out)) (fun k_ e_ => (HO_1.out.1 k_ e_))); clear HO_1; clear HB; clear HK; have HO_1 := n0_; have HB := n1_; have HK := n2_; clear n0_ n1_ n2_; clear hg hw hp_; have p109 : 0 ≤ (x5_1 : Int) := of_decide_eq_true (by first | (with_reducible assumption) | assumption); have q109 : (x5_1 : Int) < ((x1_1.length : Int) : Int) := of_decide_eq_true (by first | (with_reducible assumption) | assumption); obtain ⟨ce109, hcl109, hM109, hcc109, hfr109⟩ := Kd.R_elem HO_1.out z59 (x5_1 : Int) p109 q109; obtain rfl := k59_openM hM109; have hx109_0 : w131.cell? ⟨go106, (x5_1 : Int).toNat * 2, none⟩ = some (.int .i8 ((rd_T59 y175 x5_1).f0)) := hcc109 0 _ rfl; have hx109_1 : w131.cell? ⟨go106, (x5_1 : Int).toNat * 2 + 1, none⟩ = some (.string ((rd_T59 y175 x5_1).f1)) := hcc109 1 _ rfl; have hf109_0 : w131.frozen? ⟨go106, (x5_1 : Int).toNat * 2, none⟩ = false := hfr109 0; have hf109_1 : w131.frozen? ⟨go106, (x5_1 : Int).toNat * 2 + 1, none⟩ = false := hfr109 1; clear hcl109 hcc109 hfr109 hM109; replace p109 := eq_true p109; replace q109 := eq_true q109; have HX132 := Aside0.mk (show Kd.R k59 59 w131 w0.heap.size (fun k_ => (P1_ k_ ∨ w.heap.size ≤ k_)) (.slice (some ⟨go106, 0, none⟩) x1_1.length co5) y175 from (by (with_reducible repeat (first | apply Kd.R_alloc | apply Kd.R_drewN | apply Kd.R_drew)); exact HO_1.out)); obtain ⟨ce132, hcl132, hM132, hcc132, hfr132⟩ := Kd.R_elem HX132.out z59 (x5_1 : Int) (of_decide_eq_true (by first | (with_reducible assumption) | assumption)) (by have h_ : (x5_1 : Int) < ((x1_1.length : Int) : Int) := of_decide_eq_true (by first | (with_reducible assumption) | assumption); first | exact h_ | (have e_ := (Kd.R_reads' HO_1.out).1; omega) | simpa using h_); obtain rfl := k59_openM hM132; have HP132 := Kd.R_seg HX132.out (x5_1 : Int) (of_decide_eq_true (by first | (with_reducible assumption) | assumption)) (by have h_ : (x5_1 : Int) < ((x1_1.length : Int) : Int) := of_decide_eq_true (by first | (with_reducible assumption) | assumption); first | exact h_ | (have e_ := (Kd.R_reads' HO_1.out).1; omega) | simpa using h_) (seg := [.string x12_37]) (j := 1) hcl132 hcc132 (show 2 ≤ 2 from by decide) (x' := (⟨(rd_T59 y175 x5_1).f0, x12_37⟩ : S59)) (k59_mkM _ _ _ (⟨(rd_T59 y175 x5_1).f0, x12_37⟩ : S59) ) (fun _ hk => hk); have hx132_1 := hcc132 1 _ rfl; (try simp only [show (k59).sz = 2 from rfl, Nat.mul_one, Nat.add_zero] at hx132_1); have hf132_1 := hfr132 1; (try simp only [show (k59).sz = 2 from rfl, Nat.mul_one, Nat.add_zero] at hf132_1); clear hcl132 hcc132 hfr132 hM132) | ((with_reducible refine gate_store (t := 9) (p := 177) rfl ?_); refine store_event (t := 9) (p := 177) (v := ?vo_w133) (w1 := (w131.setCell ⟨go106, (x5_1 : Int).toNat * 2 + 1, none⟩ (.string x12_37))) ?hg ?ho ?hn ?hr ?_; (case ho => rfl); (case hg => rfl); (case hn => rfl); (case hr => first | (go_simp; done) | (go_simp; rfl)); intro w133 hw; have hg : w131.grownBy w133 (some go106) := (by rw [hw]; exact HP132.2); have hp_ : Kd.R k59 59 w133 w0.heap.size (fun k_ => (P1_ k_ ∨ w.heap.size ≤ k_)) (.slice (some ⟨go106, 0, none⟩) x1_1.length co5) y176 := (by rw [hw, Ny176.out]; exact HP132.1); clear HP132; have n0_ := Aside0.mk (hp_); have n1_ := Aside0.mk ((by rw [hw]; exact below_set (HB.out) GB106.out : Below w0.heap.size w0 w133)); have n2_ := Aside0.mk (Kept.of_grown (S := (fun k_ => P1_ k_)) hg (by repeat (first | (with_reducible first | exact HK.out | apply Kept.alloc | apply Kept.drewN | apply Kept.drew) | exact HK.out)) (fun k_ e_ => (HO_1.out.1 k_ e_))); clear HO_1; clear HB; clear HK; have HO_1 := n0_; have HB := n1_; have HK := n2_; clear n0_ n1_ n2_; clear hg hw hp_; have p129 : 0 ≤ ((ji126) : Int) := of_decide_eq_true (by first | (with_reducible assumption) | assumption); have q129 : ((ji126) : Int) < ((x1_1.length : Int) : Int) := of_decide_eq_true (by first | (with_reducible assumption) | assumption); obtain ⟨ce129, hcl129, hM129, hcc129, hfr129⟩ := Kd.R_elem HO_1.out z59 ((ji126) : Int) p129 q129; obtain rfl := k59_openM hM129; have hx129_0 : w133.cell? ⟨go106, ((ji126) : Int).toNat * 2, none⟩ = some (.int .i8 ((rd_T59 y176 (ji126)).f0)) := hcc129 0 _ rfl; have hx129_1 : w133.cell? ⟨go106, ((ji126) : Int).toNat * 2 + 1, none⟩ = some (.string ((rd_T59 y176 (ji126)).f1)) := hcc129 1 _ rfl; have hf129_0 : w133.frozen? ⟨go106, ((ji126) : Int).toNat * 2, none⟩ = false := hfr129 0; have hf129_1 : w133.frozen? ⟨go106, ((ji126) : Int).toNat * 2 + 1, none⟩ = false := hfr129 1; clear hcl129 hcc129 hfr129 hM129; replace p129 := eq_true p129; replace q129 := eq_true q129; have HX134 := Aside0.mk (show Kd.R k59 59 w133 w0.heap.size (fun k_ => (P1_ k_ ∨ w.heap.size ≤ k_)) (.slice (some ⟨go106, 0, none⟩) x1_1.length co5) y176 from (by (with_reducible repeat (first | apply Kd.R_alloc | apply Kd.R_drewN | apply Kd.R_drew)); exact HO_1.out)); obtain ⟨ce134, hcl134, hM134, hcc134, hfr134⟩ := Kd.R_elem HX134.out z59 ((ji126) : Int) (of_decide_eq_true (by first | (with_reducible assumption) | assumption)) (by have h_ : ((ji126) : Int) < ((x1_1.length : Int) : Int) := of_decide_eq_true (by first | (with_reducible assumption) | assumption); first | exact h_ | (have e_ := (Kd.R_reads' HO_1.out).1; omega) | simpa using h_); obtain rfl := k59_openM hM134; have HP134 := Kd.R_seg HX134.out ((ji126) : Int) (of_decide_eq_true (by first | (with_reducible assumption) | assumption)) (by have h_ : ((ji126) : Int) < ((x1_1.length : Int) : Int) := of_decide_eq_true (by first | (with_reducible assumption) | assumption); first | exact h_ | (have e_ := (Kd.R_reads' HO_1.out).1; omega) | simpa using h_) (seg := [.string x13_37]) (j := 1) hcl134 hcc134 (show 2 ≤ 2 from by decide) (x' := (⟨(rd_T59 y176 (ji126)).f0, x13_37⟩ : S59)) (k59_mkM _ _ _ (⟨(rd_T59 y176 (ji126)).f0, x13_37⟩ : S59) ) (fun _ hk => hk); have hx134_1 := hcc134 1 _ rfl; (try simp only [show (k59).sz = 2 from rfl, Nat.mul_one, Nat.add_zero] at hx134_1); have hf134_1 := hfr134 1; (try simp only [show (k59).sz = 2 from rfl, Nat.mul_one, Nat.add_zero] at hf134_1); clear hcl134 hcc134 hfr134 hM134) | ((with_reducible refine gate_store (t := 9) (p := 186) rfl ?_); refine store_event (t := 9) (p := 186) (v := ?vo_w135) (w1 := (w133.setCell ⟨go106, ((ji126) : Int).toNat * 2 + 1, none⟩ (.string x13_37))) ?hg ?ho ?hn ?hr ?_; (case ho => rfl); (case hg => rfl); (case hn => rfl); (case hr => first | (go_simp; done) | (go_simp; rfl)); intro w135 hw; have hg : w133.grownBy w135 (some go106) := (by rw [hw]; exact HP134.2); have hp_ : Kd.R k59 59 w135 w0.heap.size (fun k_ => (P1_ k_ ∨ w.heap.size ≤ k_)) (.slice (some ⟨go106, 0, none⟩) x1_1.length co5) y188 := (by rw [hw, Ny188.out]; exact HP134.1); clear HP134; have n0_ := Aside0.mk (hp_); have n1_ := Aside0.mk ((by rw [hw]; exact below_set (HB.out) GB106.out : Below w0.heap.size w0 w135)); have n2_ := Aside0.mk (Kept.of_grown (S := (fun k_ => P1_ k_)) hg (by repeat (first | (with_reducible first | exact HK.out | apply Kept.alloc | apply Kept.drewN | apply Kept.drew) | exact HK.out)) (fun k_ e_ => (HO_1.out.1 k_ e_))); clear HO_1; clear HB; clear HK; have HO_1 := n0_; have HB := n1_; have HK := n2_; clear n0_ n1_ n2_; clear hg hw hp_))
             go_roundg kj37
             case measure => have := HK1.out; have := HJ3.out; have := HJ22.out; have := HJ37.out; omega
             case rel => exact ⟨(y188), (ji126), (by first | rfl | (simp; done) | (simp only [← hji126] <;> (first | rfl | simp)) | (simp [*]; done)), H', ⟨by have := HK1.out; have := HJ3.out; have := HJ22.out; have := HJ37.out; omega⟩, ⟨by (with_reducible repeat (first | apply Kd.R_alloc | apply Kd.R_drewN | apply Kd.R_drew)); exact HO_1.out⟩, ⟨by repeat (first | (with_reducible first | exact HK.out | apply Kept.alloc | apply Kept.drewN | apply Kept.drew) | exact HK.out)⟩, ⟨by repeat (first | (with_reducible first | exact HB.out | apply below_alloc | apply pw_below_drewN | apply below_drew1) | exact HB.out)⟩⟩
            as_aux_lemma =>
             rw [if_pos c110] at H
             have c110b0 : ((x13_37.size : Int) == 0) = true := beq_iff_eq.mpr c110
             have c110b1 : ((x13_37.size : Int) != 0) = false := bne_eq_false_iff_eq.mpr c110
             clear c110
             obtain ⟨ji111, hji111⟩ : ∃ j_ : Int, (wrap64 (x5_1 + 1)) = j_ := ⟨_, rfl⟩
             replace H : (if 0 ≤ (ji111) then (if (ji111) ≤ (x1_1.length : Int) then (if 0 ≤ (wrap64 (x5_1 + 2)) then (if (wrap64 (x5_1 + 2)) ≤ (x1_1.length : Int) then (diffmatchpatch_DiffMatchPatch_DiffCleanupSemanticLossless.l0 kj37 (y176.eraseIdx ((ji111) : Int).toNat) (wrap64 ((ji74) + 1))) else (none)) else (none)) else (none)) else (none)) = some r := by first | (rw [hji111] at H; exact H) | (simp only [hji111] at H ⊢; exact H)
             have hji111w : (IntKind.i64.wrap (x5_1 + 1)) = ji111 := (i64_w _).trans hji111
             (try rw [hji111] at hji19w)
             obtain rfl : ji111 = ji19 := hji111.symm.trans hji19
             by_cases c112 : 0 ≤ (ji111)
             case neg =>
              rw [if_neg c112] at H
              exact absurd H (by simp)
             rw [if_pos c112] at H
             have c112b0 := eq_true c112
             have c112b1 : decide (0 ≤ (ji111)) = true := decide_eq_true c112
             clear c112
             by_cases c113 : (ji111) ≤ (x1_1.length : Int)
             case neg =>
              rw [if_neg c113] at H
              exact absurd H (by simp)
             rw [if_pos c113] at H
             have c113b0 := eq_true c113
             have c113b1 : decide ((ji111) ≤ (x1_1.length : Int)) = true := decide_eq_true c113
             clear c113
             obtain ⟨y177, hy177⟩ : ∃ y_ : List (S59), y_ = (y176.take ((ji111) : Int).toNat) := ⟨_, rfl⟩
             replace H : (if 0 ≤ (wrap64 (x5_1 + 2)) then (if (wrap64 (x5_1 + 2)) ≤ (x1_1.length : Int) then (diffmatchpatch_DiffMatchPatch_DiffCleanupSemanticLossless.l0 kj37 (y176.eraseIdx ((ji111) : Int).toNat) (wrap64 ((ji74) + 1))) else (none)) else (none)) = some r := by first | (rw [hy177]; with_reducible exact H) | (have H2_ := (Option.bind_some _ _).symm.trans H; rw [hy177]; with_reducible exact H2_) | (have H2_ := (Option.bind_some _ _).symm.trans H; with_reducible exact H2_) | with_reducible exact H | (rw [hy177]; exact H) | exact H
             have Ny177 := Aside0.mk hy177
             clear hy177
             obtain ⟨ji114, hji114⟩ : ∃ j_ : Int, (wrap64 (x5_1 + 2)) = j_ := ⟨_, rfl⟩
             replace H : (if 0 ≤ (ji114) then (if (ji114) ≤ (x1_1.length : Int) then (diffmatchpatch_DiffMatchPatch_DiffCleanupSemanticLossless.l0 kj37 (y176.eraseIdx ((ji111) : Int).toNat) (wrap64 ((ji74) + 1))) else (none)) else (none)) = some r := by first | (rw [hji114] at H; exact H) | (simp only [hji114] at H ⊢; exact H)
             have hji114w : (IntKind.i64.wrap (x5_1 + 2)) = ji114 := (i64_w _).trans hji114
             by_cases c115 : 0 ≤ (ji114)
             case neg =>
              rw [if_neg c115] at H
              exact absurd H (by simp)
             rw [if_pos c115] at H
             have c115b0 := eq_true c115
             have c115b1 : decide (0 ≤ (ji114)) = true := decide_eq_true c115
             clear c115
             by_cases c116 : (ji114) ≤ (x1_1.length : Int)
             case neg =>
              rw [if_neg c116] at H
              exact absurd H (by simp)
             rw [if_pos c116] at H
             have c116b0 := eq_true c116
             have c116b1 : decide ((ji114) ≤ (x1_1.length : Int)) = true := decide_eq_true c116
             clear c116
             obtain ⟨y181, hy181⟩ : ∃ y_ : List (S59), y_ = (y176.drop ((ji114) : Int).toNat) := ⟨_, rfl⟩
             replace H : (diffmatchpatch_DiffMatchPatch_DiffCleanupSemanticLossless.l0 kj37 (y176.eraseIdx ((ji111) : Int).toNat) (wrap64 ((ji74) + 1))) = some r := by first | (rw [hy181]; with_reducible exact H) | (have H2_ := (Option.bind_some _ _).symm.trans H; rw [hy181]; with_reducible exact H2_) | (have H2_ := (Option.bind_some _ _).symm.trans H; with_reducible exact H2_) | with_reducible exact H | (rw [hy181]; exact H) | exact H
             have Ny181 := Aside0.mk hy181
             clear hy181
             obtain ⟨y185, hy185⟩ : ∃ y_ : List (S59), y_ = (y176.eraseIdx ((ji111) : Int).toNat) := ⟨_, rfl⟩
             replace H : (diffmatchpatch_DiffMatchPatch_DiffCleanupSemanticLossless.l0 kj37 y185 (wrap64 ((ji74) + 1))) = some r := by first | (rw [hy185]; with_reducible exact H) | (have H2_ := (Option.bind_some _ _).symm.trans H; rw [hy185]; with_reducible exact H2_) | (have H2_ := (Option.bind_some _ _).symm.trans H; with_reducible exact H2_) | with_reducible exact H | (rw [hy185]; exact H) | exact H
             have Ny185 := Aside0.mk hy185
             clear hy185
             have H' := Aside0.mk H
             clear H
             have p158 : 0 ≤ ((ji74) : Int) := of_decide_eq_true (by first | (with_reducible assumption) | assumption)
             have q158 : (ji74) < (x1_1.length : Int) := of_decide_eq_true (by first | (with_reducible assumption) | assumption)
             obtain ⟨ad158, e158, hx158_0, hx158_1⟩ := at_T59 (Kd.R_reads' HO_1.out).2.2 (ji74) p158 q158
             obtain rfl : ad148 = ad158 := (by injection e158)
             replace p158 := eq_true p158
             replace q158 := eq_true q158
             have p106 : 0 ≤ ((ji74) : Int) := of_decide_eq_true (by first | (with_reducible assumption) | assumption)
             have q106 : ((ji74) : Int) < ((x1_1.length : Int) : Int) := of_decide_eq_true (by first | (with_reducible assumption) | assumption)
             obtain ⟨go106, co106, eo106, gb106, gl106, cl106, HG106⟩ := Kd.R_form HO_1.out (by omega)
             (first | cases eo106 | (injection eo106 with ea_ en_ ec_; (first | subst ea_ | (injection ea_ with ea_; subst ea_)); subst ec_; clear en_))
             have GB106 := Aside0.mk gb106
             have GG106 := Aside0.mk HG106
             clear gb106 gl106 HG106
             have HMgo106 := Aside0.mk (show (P1_ go106 ∨ w.heap.size ≤ go106) from (HO_1.out.1 _ rfl))
             (first | simp only [add_plain] at hx148_0 | skip)
             (first | simp only [add_plain] at hx148_1 | skip)
             (first | simp only [add_plain] at hx149_0 | skip)
             (first | simp only [add_plain] at hx149_1 | skip)
             (first | simp only [add_plain] at hx150_0 | skip)
             (first | simp only [add_plain] at hx150_1 | skip)
             (first | simp only [add_plain] at hx158_0 | skip)
             (first | simp only [add_plain] at hx158_1 | skip)
             obtain ⟨ce106, hcl106, hM106, hcc106, hfr106⟩ := Kd.R_elem HO_1.out z59 ((ji74) : Int) p106 q106
             obtain rfl := k59_openM hM106
             have hx106_0 : wc.cell? ⟨go106, ((ji74) : Int).toNat * 2, none⟩ = some (.int .i8 ((rd_T59 x1_1 (ji74)).f0)) := hcc106 0 _ rfl
             have hx106_1 : wc.cell? ⟨go106, ((ji74) : Int).toNat * 2 + 1, none⟩ = some (.string ((rd_T59 x1_1 (ji74)).f1)) := hcc106 1 _ rfl
             have hf106_0 : wc.frozen? ⟨go106, ((ji74) : Int).toNat * 2, none⟩ = false := hfr106 0
             have hf106_1 : wc.frozen? ⟨go106, ((ji74) : Int).toNat * 2 + 1, none⟩ = false := hfr106 1
             clear hcl106 hcc106 hfr106 hM106
             replace p106 := eq_true p106
             replace q106 := eq_true q106
             have HX117 := Aside0.mk (show Kd.R k59 59 wc w0.heap.size (fun k_ => (P1_ k_ ∨ w.heap.size ≤ k_)) (.slice (some ⟨go106, 0, none⟩) x1_1.length co5) x1_1 from (by (with_reducible repeat (first | apply Kd.R_alloc | apply Kd.R_drewN | apply Kd.R_drew)); exact HO_1.out))
             obtain ⟨ce117, hcl117, hM117, hcc117, hfr117⟩ := Kd.R_elem HX117.out z59 ((ji74) : Int) (of_decide_eq_true (by first | (with_reducible assumption) | assumption)) (by have h_ : ((ji74) : Int) < ((x1_1.length : Int) : Int) := of_decide_eq_true (by first | (with_reducible assumption) | assumption); first | exact h_ | (have e_ := (Kd.R_reads' HO_1.out).1; omega) | simpa using h_)
             obtain rfl := k59_openM hM117
             have HP117 := Kd.R_seg HX117.out ((ji74) : Int) (of_decide_eq_true (by first | (with_reducible assumption) | assumption)) (by have h_ : ((ji74) : Int) < ((x1_1.length : Int) : Int) := of_decide_eq_true (by first | (with_reducible assumption) | assumption); first | exact h_ | (have e_ := (Kd.R_reads' HO_1.out).1; omega) | simpa using h_) (seg := [.string x11_37]) (j := 1) hcl117 hcc117 (show 2 ≤ 2 from by decide) (x' := (⟨(rd_T59 x1_1 (ji74)).f0, x11_37⟩ : S59)) (k59_mkM _ _ _ (⟨(rd_T59 x1_1 (ji74)).f0, x11_37⟩ : S59) ) (fun _ hk => hk)
             have hx117_1 := hcc117 1 _ rfl
             (try simp only [show (k59).sz = 2 from rfl, Nat.mul_one, Nat.add_zero] at hx117_1)
             have hf117_1 := hfr117 1
             (try simp only [show (k59).sz = 2 from rfl, Nat.mul_one, Nat.add_zero] at hf117_1)
             clear hcl117 hcc117 hfr117 hM117
             try go_wp2_with (first | ((with_reducible refine gate_store (t := 9) (p := 166) rfl ?_); refine store_event (t := 9) (p := 166) (v := ?vo_w118) (w1 := (wc.setCell ⟨go106, ((ji74) : Int).toNat * 2 + 1, none⟩ (.string x11_37))) ?hg ?ho ?hn ?hr ?_; (case ho => rfl); (case hg => rfl); (case hn => rfl); (case hr => first | (go_simp; done) | (go_simp; rfl)); intro w118 hw; have hg : wc.grownBy w118 (some go106) := (by rw [hw]; exact HP117.2); have hp_ : Kd.R k59 59 w118 w0.heap.size (fun k_ => (P1_ k_ ∨ w.heap.size ≤ k_)) (.slice (some ⟨go106, 0, none⟩) x1_1.length co5) y175 := (by rw [hw, Ny175.out]; exact HP117.1); clear HP117; have n0_ := Aside0.mk (hp_); have n1_ := Aside0.mk ((by rw [hw]; exact below_set (HB.out) GB106.out : Below w0.heap.size w0 w118)); have n2_ := Aside0.mk (Kept.of_grown (S := (fun k_ => P1_ k_)) hg (by repeat (first | (with_reducible first | exact HK.out | apply Kept.alloc | apply Kept.drewN | apply Kept.drew) | exact HK.out)) (fun k_ e_ => (HO_1.out.1 k_ e_))); clear HO_1; clear HB; clear HK; have HO_1 := n0_; have HB := n1_; have HK := n2_; clear n0_ n1_ n2_; clear hg hw hp_; have p109 : 0 ≤ (x5_1 : Int) := of_decide_eq_true (by first | (with_reducible assumption) | assumption); have q109 : (x5_1 : Int) < ((x1_1.length : Int) : Int) := of_decide_eq_true (by first | (with_reducible assumption) | assumption); obtain ⟨ce109, hcl109, hM109, hcc109, hfr109⟩ := Kd.R_elem HO_1.out z59 (x5_1 : Int) p109 q109; obtain rfl := k59_openM hM109; have hx109_0 : w118.cell? ⟨go106, (x5_1 : Int).toNat * 2, none⟩ = some (.int .i8 ((rd_T59 y175 x5_1).f0)) := hcc109 0 _ rfl; have hx109_1 : w118.cell? ⟨go106, (x5_1 : Int).toNat * 2 + 1, none⟩ = some (.string ((rd_T59 y175 x5_1).f1)) := hcc109 1 _ rfl; have hf109_0 : w118.frozen? ⟨go106, (x5_1 : Int).toNat * 2, none⟩ = false := hfr109 0; have hf109_1 : w118.frozen? ⟨go106, (x5_1 : Int).toNat * 2 + 1, none⟩ = false := hfr109 1; clear hcl109 hcc109 hfr109 hM109; replace p109 := eq_true p109; replace q109 := eq_true q109; have HX119 := Aside0.mk (show Kd.R k59 59 w118 w0.heap.size (fun k_ => (P1_ k_ ∨ w.heap.size ≤ k_)) (.slice (some ⟨go106, 0, none⟩) x1_1.length co5) y175 from (by (with_reducible repeat (first | apply Kd.R_alloc | apply Kd.R_drewN | apply Kd.R_drew)); exact HO_1.out)); obtain ⟨ce119, hcl119, hM119, hcc119, hfr119⟩ := Kd.R_elem HX119.out z59 (x5_1 : Int) (of_decide_eq_true (by first | (with_reducible assumption) | assumption)) (by have h_ : (x5_1 : Int) < ((x1_1.length : Int) : Int) := of_decide_eq_true (by first | (with_reducible assumption) | assumption); first | exact h_ | (have e_ := (Kd.R_reads' HO_1.out).1; omega) | simpa using h_); obtain rfl := k59_openM hM119; have HP119 := Kd.R_seg HX119.out (x5_1 : Int) (of_decide_eq_true (by first | (with_reducible assumption) | assumption)) (by have h_ : (x5_1 : Int) < ((x1_1.length : Int) : Int) := of_decide_eq_true (by first | (with_reducible assumption) | assumption); first | exact h_ | (have e_ := (Kd.R_reads' HO_1.out).1; omega) | simpa using h_) (seg := [.string x12_37]) (j := 1) hcl119 hcc119 (show 2 ≤ 2 from by decide) (x' := (⟨(rd_T59 y175 x5_1).f0, x12_37⟩ : S59)) (k59_mkM _ _ _ (⟨(rd_T59 y175 x5_1).f0, x12_37⟩ : S59) ) (fun _ hk => hk); have hx119_1 := hcc119 1 _ rfl; (try simp only [show (k59).sz = 2 from rfl, Nat.mul_one, Nat.add_zero] at hx119_1); have hf119_1 := hfr119 1; (try simp only [show (k59).sz = 2 from rfl, Nat.mul_one, Nat.add_zero] at hf119_1); clear hcl119 hcc119 hfr119 hM119) | ((with_reducible refine gate_store (t := 9) (p := 177) rfl ?_); refine store_event (t := 9) (p := 177) (v := ?vo_w120) (w1 := (w118.setCell ⟨go106, (x5_1 : Int).toNat * 2 + 1, none⟩ (.string x12_37))) ?hg ?ho ?hn ?hr ?_; (case ho => rfl); (case hg => rfl); (case hn => rfl); (case hr => first | (go_simp; done) | (go_simp; rfl)); intro w120 hw; have hg : w118.grownBy w120 (some go106) := (by rw [hw]; exact HP119.2); have hp_ : Kd.R k59 59 w120 w0.heap.size (fun k_ => (P1_ k_ ∨ w.heap.size ≤ k_)) (.slice (some ⟨go106, 0, none⟩) x1_1.length co5) y176 := (by rw [hw, Ny176.out]; exact HP119.1); clear HP119; have n0_ := Aside0.mk (hp_); have n1_ := Aside0.mk ((by rw [hw]; exact below_set (HB.out) GB106.out : Below w0.heap.size w0 w120)); have n2_ := Aside0.mk (Kept.of_grown (S := (fun k_ => P1_ k_)) hg (by repeat (first | (with_reducible first | exact HK.out | apply Kept.alloc | apply Kept.drewN | apply Kept.drew) | exact HK.out)) (fun k_ e_ => (HO_1.out.1 k_ e_))); clear HO_1; clear HB; clear HK; have HO_1 := n0_; have HB := n1_; have HK := n2_; clear n0_ n1_ n2_; clear hg hw hp_))
             have n0_ := Aside0.mk (Kd.R_drew HO_1.out)
             have n1_ := Aside0.mk (Kept.drew HK.out)
             have n2_ := Aside0.mk (below_drew1 HB.out)
             clear HO_1
             clear HK
             clear HB
             have HO_1 := n0_
             have HK := n1_
             have HB := n2_
             clear n0_ n1_ n2_
             have hlx122 := (Kd.R_reads' HO_1.out).1
             have q122 : ((ji111) : Int) ≤ ((x1_1.length : Int) : Int) := of_decide_eq_true (by first | (with_reducible assumption) | assumption)
             obtain ⟨i0122, hi0122, _, hsz122, _⟩ := info_parts info59
             have hroom122 : x1_1.length ≤ co5 := (Kd.R_reads' HO_1.out).2.1
             have hroomc122 : y176.length ≤ co5 := (by rw [← hlx122]; exact hroom122)
             have hC122 : Kd.C k59 _ (some ⟨go106, 0, none⟩) y176.length y176 := (Kd.R_reads' HO_1.out).2.2
             have hcut122 := cut_to (P := Tryd.prog) 44 59 .i64 Tryd.underlying44 hi0122 (some ⟨go106, 0, none⟩) x1_1.length co5 (ji111) (of_decide_eq_true (by first | (with_reducible assumption) | assumption)) q122 hroom122
             have hr122 := Kd.C_take (m := ((ji111) : Int).toNat) hC122 (by omega)
             have hy122 : y177.length = ((ji111) : Int).toNat := (by rw [Ny177.out, List.length_take]; omega)
             rw [← Ny177.out] at hr122
             rw [← hy122] at hcut122
             have HR180 := Aside0.mk hr122
             have HC180 := Aside0.mk (show y177.length ≤ co5 from by omega)
             clear hr122 hC122 hroom122 hi0122 hsz122 hroomc122
             have KY122 := Aside0.mk hy122
             clear hy122
             have KE122 := Aside0.mk hlx122
             have KL122 := Aside0.mk (show ((ji111) : Int).toNat ≤ y176.length from by omega)
             clear hlx122
             replace q122 := eq_true q122
             have hlx123 := (Kd.R_reads' HO_1.out).1
             have q123 : ((ji114) : Int) ≤ ((x1_1.length : Int) : Int) := of_decide_eq_true (by first | (with_reducible assumption) | assumption)
             obtain ⟨i0123, hi0123, _, hsz123, _⟩ := info_parts info59
             have hroom123 : x1_1.length ≤ co5 := (Kd.R_reads' HO_1.out).2.1
             have hroomc123 : y176.length ≤ co5 := (by rw [← hlx123]; exact hroom123)
             have hC123 : Kd.C k59 _ (some ⟨go106, 0, none⟩) y176.length y176 := (Kd.R_reads' HO_1.out).2.2
             have q0123 : (0 : Int) ≤ ((ji114) : Int) := of_decide_eq_true (by first | (with_reducible assumption) | assumption)
             have hcut123 := cut_from (P := Tryd.prog) 44 59 .i64 Tryd.underlying44 hi0123 2 hsz123 (some ⟨go106, 0, none⟩) x1_1.length co5 (ji114) q0123 q123
             have hr123 := Kd.C_drop (m := ((ji114) : Int).toNat) (c := co5) hC123 (by omega) hroomc123
             obtain ⟨A123, hA123⟩ : ∃ A1, A1 = (if co5 = ((ji114) : Int).toNat then (some ⟨go106, 0, none⟩) else ((some ⟨go106, 0, none⟩) : Option Addr).map (·.add (((ji114) : Int).toNat * 2))) := ⟨_, rfl⟩
             obtain ⟨c123, hc123⟩ : ∃ c1, c1 = co5 - ((ji114) : Int).toNat := ⟨_, rfl⟩
             have hy123 : y181.length = x1_1.length - ((ji114) : Int).toNat := (by rw [Ny181.out, List.length_drop] <;> omega)
             rw [show (y176).drop ((ji114) : Int).toNat = y181 from Ny181.out.symm] at hr123
             replace hr123 : Kd.C k59 _ A123 y181.length y181 := (by rw [hA123]; exact hr123)
             rw [← hy123, ← hA123, ← hc123] at hcut123
             have HR184 := Aside0.mk hr123
             have HC184 := Aside0.mk (show y181.length ≤ c123 from by rw [hy123, hc123]; exact Nat.sub_le_sub_right hroom123 _)
             clear hr123 hC123 hroom123 hi0123 hsz123 hc123 hroomc123
             have KY123 := Aside0.mk hy123
             have KA123 := Aside0.mk hA123
             clear hy123 hA123
             have KE123 := Aside0.mk hlx123
             have KL123 := Aside0.mk (show ((ji114) : Int).toNat ≤ y176.length from by omega)
             clear hlx123
             replace q123 := eq_true q123
             refine start_ (n := 10) (S := fun w' => True) (ds := []) #[false, false, false, false, false, false, false, false, false, false] (by kernel_rfl) rfl rfl trivial (fun hHeld => ?_); refine with_tabW diffmatchpatch_DiffMatchPatch_DiffCleanupSemanticLossless.tab37 diffmatchpatch_DiffMatchPatch_DiffCleanupSemanticLossless.bits37 (fun HT_ HW_ => ?_)
             generalize w120.drew = w121 at HO_1 HK HB HR180 HR184 hHeld ⊢
             refine pure_ (i := 0) (N := some 187) (v := ?_) (a' := ?_) (tf 1 10) rfl rfl (any_of HT_.out (by kernel_rfl)) (fun _ _ _ h => h) (Or.inl ⟨by rfl, ?_⟩) ?_ ?_
             rotate_left
             ·(intro w'; go_simp; with_reducible rfl)
             rotate_left
             ·(simp only [Act.put, List.setIfInBounds_toArray, List.set_cons_zero, List.set_cons_succ, i64_w, i32_w]; rfl)
             refine pure_ (i := 1) (N := some 188) (v := ?_) (a' := ?_) (tf 2 10) rfl rfl (any_of HT_.out (by kernel_rfl)) (fun _ _ _ h => h) (Or.inl ⟨by rfl, ?_⟩) ?_ ?_
             rotate_left
             ·(intro w'; go_simp; with_reducible rfl)
             rotate_left
             ·(simp only [Act.put, List.setIfInBounds_toArray, List.set_cons_zero, List.set_cons_succ, i64_w, i32_w]; rfl)
             refine pure_ (i := 2) (N := some 189) (v := ?_) (a' := ?_) (tf 3 10) rfl rfl (any_of HT_.out (by kernel_rfl)) (fun _ _ _ h => h) (Or.inl ⟨by rfl, ?_⟩) ?_ ?_
             rotate_left
             ·(intro w'; go_simp; with_reducible rfl)
             rotate_left
             ·(simp only [Act.put, List.setIfInBounds_toArray, List.set_cons_zero, List.set_cons_succ, i64_w, i32_w]; rfl)
             refine pure_ (i := 3) (N := some 190) (v := ?_) (a' := ?_) (tf 4 10) rfl rfl (any_of HT_.out (by kernel_rfl)) (fun _ _ _ h => h) (Or.inl ⟨by rfl, ?_⟩) ?_ ?_
             rotate_left
             ·(intro w'; go_simp; with_reducible rfl)
             rotate_left
             ·(simp only [Act.put, List.setIfInBounds_toArray, List.set_cons_zero, List.set_cons_succ, i64_w, i32_w]; rfl)
             refine pure_ (i := 4) (N := some 191) (v := ?_) (a' := ?_) (tf 5 10) rfl rfl (any_of HT_.out (by kernel_rfl)) (fun _ _ _ h => h) (Or.inl ⟨by rfl, ?_⟩) ?_ ?_
             rotate_left
             ·(intro w'; go_simp; with_reducible rfl)
             rotate_left
             ·(simp only [Act.put, List.setIfInBounds_toArray, List.set_cons_zero, List.set_cons_succ, i64_w, i32_w]; rfl)
             refine pure_ (i := 5) (N := some 192) (v := ?_) (a' := ?_) (tf 6 10) rfl rfl (any_of HT_.out (by kernel_rfl)) (fun _ _ _ h => h) (Or.inl ⟨by rfl, ?_⟩) ?_ ?_
             rotate_left
             ·(intro w'; go_simp; with_reducible rfl)
             rotate_left
             ·(simp only [Act.put, List.setIfInBounds_toArray, List.set_cons_zero, List.set_cons_succ, i64_w, i32_w]; rfl)
             refine pure_ (i := 6) (N := some 193) (v := ?_) (a' := ?_) (tf 7 10) rfl rfl (any_of HT_.out (by kernel_rfl)) (fun _ _ _ h => h) (Or.inl ⟨by rfl, ?_⟩) ?_ ?_
             rotate_left
             ·(intro w'; go_simp; with_reducible rfl)
             rotate_left
             ·(simp only [Act.put, List.setIfInBounds_toArray, List.set_cons_zero, List.set_cons_succ, i64_w, i32_w]; rfl)
             refine pure_ (i := 7) (N := some 194) (v := ?_) (a' := ?_) (tf 8 10) rfl rfl (any_of HT_.out (by kernel_rfl)) (fun _ _ _ h => h) (Or.inl ⟨by rfl, ?_⟩) ?_ ?_
             rotate_left
             ·(intro w'; go_simp; with_reducible rfl)
             rotate_left
             ·(simp only [Act.put, List.setIfInBounds_toArray, List.set_cons_zero, List.set_cons_succ, i64_w, i32_w]; rfl)
             refine one_ (i := 8) (N := some 195) #[true, true, true, true, true, true, true, true, true, false] rfl rfl (one_of HT_.out (by kernel_rfl)) (by decide) (fun K hK => ?_)
             have hj_ : 0 ≤ ((ji111) : Int) := of_decide_eq_true (by first | (with_reducible assumption) | assumption)
             have hl_ : ((ji114) : Int) ≤ (x1_1.length : Int) := of_decide_eq_true (by first | (with_reducible assumption) | assumption)
             have hh_ : ((ji111) : Int) ≤ (x1_1.length : Int) := of_decide_eq_true (by first | (with_reducible assumption) | assumption)
             have hb_ := (Kd.R_reads' HO_1.out).2.2.2.1
             have h0_ : (0 : Int) ≤ ((ji114) : Int) := of_decide_eq_true (by first | (with_reducible assumption) | assumption)
             have hy1_ := KY122.out
             have hk_ : ((ji114) : Int).toNat = y177.length + 1 := (by have hw_ : ((ji114) : Int) = (ji111) + 1 := (by have h00_ := h0_; (try rw [← hji114] at h00_); (try rw [← hji114]); (try rw [← hji111]); unfold wrap64 at h00_ ⊢; omega); rw [hw_]; omega)
             refine Kd.R_delete_step k59 (w0 := w0) w0.heap.size (by rfl) (.tmp 190) (.tmp 194) 44 59 rfl Tryd.underlying44 (by kernel_rfl) (g := go106) (n := x1_1.length) (c := co5) (k := y177.length) rfl rfl ?hA ?hm (by (with_reducible repeat (first | apply Kd.R_alloc | apply Kd.R_drewN | apply Kd.R_drew)); exact HO_1.out) ?hk (by repeat (first | (with_reducible first | exact HB.out | apply below_alloc | apply pw_below_drewN | apply below_drew1) | exact HB.out)) (below_size (by repeat (first | (with_reducible first | exact HB.out | apply below_alloc | apply pw_below_drewN | apply below_drew1) | exact HB.out))) ?_
             (case hA => have ha_ := KA123.out; rw [hk_] at ha_; exact ha_)
             (case hm => have ha_ := KY123.out; omega)
             (case hk => omega)
             intro w124 ho hb hg
             clear hj_ hl_ hh_ hb_ hk_ h0_
             rw [hy1_, ← Ny185.out] at ho
             clear hy1_
             have hn_ : x1_1.length - 1 = y185.length := (by have := (Kd.R_reads' ho).1; omega)
             rw [hn_] at ho ⊢
             clear hn_
             have n0_ := Aside0.mk (ho)
             have n1_ := Aside0.mk (hb)
             have n2_ := Aside0.mk (Kept.of_grown (S := (fun k_ => P1_ k_)) hg (by repeat (first | (with_reducible first | exact HK.out | apply Kept.alloc | apply Kept.drewN | apply Kept.drew) | exact HK.out)) (fun k_ e_ => (HO_1.out.1 k_ e_)))
             clear HO_1
             clear HB
             clear HK
             have HO_1 := n0_
             have HB := n1_
             have HK := n2_
             clear n0_ n1_ n2_
             clear ho hb hg
             refine hK.out _ _ trivial (fun hHeld => ?_)
             clear hK K
             refine norm_ (a' := ?_) ?_ ?_
             rotate_left
             ·show Act.put _ (some 195) _ = _
              simp only [Act.put, List.setIfInBounds_toArray, List.set_cons_zero, List.set_cons_succ, i64_w, i32_w]
              rfl
             refine pure_ (i := 9) (N := some 1) (v := ?_) (a' := ?_) (tf 10 10) rfl rfl (any_of HT_.out (by kernel_rfl)) (fun _ _ _ h => h) (Or.inl ⟨by rfl, ?_⟩) ?_ ?_
             rotate_left
             ·(intro w'; go_simp; with_reducible rfl)
             rotate_left
             ·(simp only [Act.put, List.setIfInBounds_toArray, List.set_cons_zero, List.set_cons_succ, i64_w, i32_w]; rfl)
             refine done_ (done_of HT_.out (by kernel_rfl)) ?_
             try go_wp2
             go_roundg kj37
             case measure => have := HK1.out; have := HJ3.out; have := HJ22.out; have := HJ37.out; omega
             case rel => exact ⟨(y185), (wrap64 ((ji74) + 1)), (by first | rfl | (simp; done) | (simp only [← hji74] <;> (first | rfl | simp)) | (simp [*]; done)), H', ⟨by have := HK1.out; have := HJ3.out; have := HJ22.out; have := HJ37.out; omega⟩, ⟨by (with_reducible repeat (first | apply Kd.R_alloc | apply Kd.R_drewN | apply Kd.R_drew)); exact HO_1.out⟩, ⟨by repeat (first | (with_reducible first | exact HK.out | apply Kept.alloc | apply Kept.drewN | apply Kept.drew) | exact HK.out)⟩, ⟨by repeat (first | (with_reducible first | exact HB.out | apply below_alloc | apply pw_below_drewN | apply below_drew1) | exact HB.out)⟩⟩
end Go.Proofs.YtaabfadjemmibaaDoor.P