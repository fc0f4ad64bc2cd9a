-- Written by a program of this session (wip/tools): the printer's text for functions of the seat Ytmdgnglgabnhnaa. Not trusted: Lean checks it.
import Derived.Test.YtmdgnglgabnhnaaPx0
import Derived.Test.YtmdgnglgabnhnaaXMin
import Derived.Test.YtmdgnglgabnhnaaXPlain
namespace Go.Proofs.Ytmdgnglgabnhnaa.P
open Go.RowKit Go.Proofs.YtmdgnglgabnhnaaW.PrintWords Go.Proofs.YtmdgnglgabnhnaaW.PrintLast Go.Proofs.YtmdgnglgabnhnaaW.PrintMore
attribute [local go_sem] max2_int min2_int max_two min_two max_three min_three max_four min_four   -- for this text's walks alone
open Go.Proofs.YtmdgnglgabnhnaaX
set_option linter.unusedVariables false
set_option linter.unusedSimpArgs false

/-! ### laws_isAsciiText: function 7 -/
def laws_isAsciiText.l0 : Nat → ByteArray → Int → Int → Option (Bool)
  | 0, _, _, _ => none
  | k + 1, x0, x5, x6 => if x6 < x5 then (if 0 ≤ x6 then (if x6 < (x0.size : Int) then (if (bt x0 x6) ≥ 128 then (some false) else (laws_isAsciiText.l0 k x0 x5 (wrap64 (x6 + 1)))) else (none)) else (none)) else (some true)
def laws_isAsciiText.f (k : Nat) (a0 : ByteArray) : Option (Bool) := laws_isAsciiText.l0 k a0 (a0.size : Int) 0
theorem laws_isAsciiText.mono_l : ∀ k, (∀ y0 y1 y2, LeO (laws_isAsciiText.l0 k y0 y1 y2) (laws_isAsciiText.l0 (k + 1) y0 y1 y2))
  | 0 => fun _ _ _ r h => by simp [laws_isAsciiText.l0] at h
  | k + 1 => by
    have ih0 := laws_isAsciiText.mono_l k
    · intro y0 y1 y2
      unfold laws_isAsciiText.l0
      repeat' first
      | (with_reducible exact ih0 _ _ _)
      | (with_reducible exact LeO.refl _)
      | (with_reducible exact LeO.none _)
      | (with_reducible refine LeO.ite ?_ ?_)
      | (with_reducible refine LeO.bind ?_ (fun _ => ?_))
      | exact ih0 _ _ _
      | exact LeO.none _
      | refine LeO.ite ?_ ?_
      | refine LeO.bind ?_ (fun _ => ?_)
theorem laws_isAsciiText.mono : ∀ a0 k, LeO (laws_isAsciiText.f k a0) (laws_isAsciiText.f (k + 1) a0) := by
  intro a0 k
  have ih0 := laws_isAsciiText.mono_l k
  unfold laws_isAsciiText.f
  repeat' first
      | (with_reducible exact ih0 _ _ _)
      | (with_reducible exact LeO.refl _)
      | (with_reducible exact LeO.none _)
      | (with_reducible refine LeO.ite ?_ ?_)
      | (with_reducible refine LeO.bind ?_ (fun _ => ?_))
      | exact ih0 _ _ _
      | exact LeO.none _
      | refine LeO.ite ?_ ?_
      | refine LeO.bind ?_ (fun _ => ?_)
set_option maxHeartbeats 8000000 in
set_option maxRecDepth 100000 in
theorem laws_isAsciiText.calls (k : Nat) (a0 : ByteArray) (r : Bool) (w : World) (h : laws_isAsciiText.f k a0 = some r) :
    Calls Try.prog 7 #[.string a0] w fun e w' => e = .returned (.bool r) ∧ Drawn0 w w' := by
  have H : (laws_isAsciiText.l0 k a0 (a0.size : Int) 0) = some r := h
  clear h
  have H' := Aside0.mk H
  clear H
  go_enter Try.func7, Try.ntmps7
  go_wp2
  go_loopg [6] k (fun kq v6 w' => ∃ (x6_1 : Int), v6 = .int .i64 x6_1 ∧ Aside0 (laws_isAsciiText.l0 kq a0 (a0.size : Int) x6_1 = some r) ∧ Aside0 (kq ≤ k) ∧ Drawn0 w w')
  case atStart => exact ⟨(0), (by first | rfl | (simp; done) | (simp [*]; done)), H', ⟨Nat.le_refl _⟩, by repeat (first | exact Drawn0.refl _ | apply Drawn0.step)⟩
  case round =>
    clear H'
    obtain ⟨x6_1, rfl, HA, HK1, ⟨m1, rfl⟩⟩ := hrel
    cases gk with
    | zero => exact absurd HA.out (by simp [laws_isAsciiText.l0])
    | succ k1 =>
      have H := HA.out
      clear HA
      simp only [laws_isAsciiText.l0] at H
      by_cases c2 : x6_1 < (a0.size : Int)
      · rw [if_pos c2] at H
        have c2b0 : decide (x6_1 < (a0.size : Int)) = true := decide_eq_true c2
        clear c2
        by_cases c3 : 0 ≤ x6_1
        · rw [if_pos c3] at H
          have c3b0 : decide (0 ≤ x6_1) = true := decide_eq_true c3
          clear c3
          by_cases c4 : x6_1 < (a0.size : Int)
          · rw [if_pos c4] at H
            have c4b0 : decide (x6_1 < (a0.size : Int)) = true := decide_eq_true c4
            clear c4
            by_cases c6 : (bt a0 x6_1) ≥ 128
            · rw [if_pos c6] at H
              have c6b0 : decide (128 ≤ (bt a0 x6_1)) = true := decide_eq_true c6
              clear c6
              obtain rfl := Option.some.inj H
              have p5 : 0 ≤ (x6_1 : Int) := of_decide_eq_true (by first | (with_reducible assumption) | assumption)
              have q5 : x6_1 < (a0.size : Int) := of_decide_eq_true (by first | (with_reducible assumption) | assumption)
              have hx5 := bt_at a0 x6_1
              replace p5 := eq_true p5
              replace q5 := eq_true q5
              go_wp2
              go_ret
              exact ⟨by first | rfl | (simp; done) | (simp [*]; done), by repeat (first | exact Drawn0.refl _ | apply Drawn0.step)⟩
            · rw [if_neg c6] at H
              have c6b0 : decide (128 ≤ (bt a0 x6_1)) = false := decide_eq_false c6
              clear c6
              have H' := Aside0.mk H
              clear H
              have p5 : 0 ≤ (x6_1 : Int) := of_decide_eq_true (by first | (with_reducible assumption) | assumption)
              have q5 : x6_1 < (a0.size : Int) := of_decide_eq_true (by first | (with_reducible assumption) | assumption)
              have hx5 := bt_at a0 x6_1
              replace p5 := eq_true p5
              replace q5 := eq_true q5
              go_wp2
              go_roundg k1
              case measure => have := HK1.out; omega
              case rel => exact ⟨(wrap64 (x6_1 + 1)), (by first | rfl | (simp; done) | (simp [*]; done)), H', ⟨by have := HK1.out; omega⟩, by repeat (first | exact Drawn0.refl _ | apply Drawn0.step)⟩
          · rw [if_neg c4] at H
            exact absurd H (by simp)
        · rw [if_neg c3] at H
          exact absurd H (by simp)
      · rw [if_neg c2] at H
        have c2b0 : decide (x6_1 < (a0.size : Int)) = false := decide_eq_false c2
        clear c2
        obtain rfl := Option.some.inj H
        go_wp2
        go_ret
        exact ⟨by first | rfl | (simp; done) | (simp [*]; done), by repeat (first | exact Drawn0.refl _ | apply Drawn0.step)⟩

/-! ### diffmatchpatch_zzIndex: function 15 -/
def diffmatchpatch_zzIndex.l0 : Nat → ByteArray → ByteArray → Int → Option (Int)
  | 0, _, _, _ => none
  | k + 1, x0, x1, x5 => if (wrap64 (x5 + (x1.size : Int))) ≤ (x0.size : Int) then (if 0 ≤ x5 then (if x5 ≤ (wrap64 (x5 + (x1.size : Int))) then (if (x0.extract (x5 : Int).toNat ((wrap64 (x5 + (x1.size : Int))) : Int).toNat).toList = x1.toList then (some x5) else (diffmatchpatch_zzIndex.l0 k x0 x1 (wrap64 (x5 + 1)))) else (none)) else (none)) else (some (-1))
def diffmatchpatch_zzIndex.f (k : Nat) (a0 : ByteArray) (a1 : ByteArray) : Option (Int) := diffmatchpatch_zzIndex.l0 k a0 a1 0
theorem diffmatchpatch_zzIndex.mono_l : ∀ k, (∀ y0 y1 y2, LeO (diffmatchpatch_zzIndex.l0 k y0 y1 y2) (diffmatchpatch_zzIndex.l0 (k + 1) y0 y1 y2))
  | 0 => fun _ _ _ r h => by simp [diffmatchpatch_zzIndex.l0] at h
  | k + 1 => by
    have ih0 := diffmatchpatch_zzIndex.mono_l k
    · intro y0 y1 y2
      unfold diffmatchpatch_zzIndex.l0
      repeat' first
      | (with_reducible exact ih0 _ _ _)
      | (with_reducible exact LeO.refl _)
      | (with_reducible exact LeO.none _)
      | (with_reducible refine LeO.ite ?_ ?_)
      | (with_reducible refine LeO.bind ?_ (fun _ => ?_))
      | exact ih0 _ _ _
      | exact LeO.none _
      | refine LeO.ite ?_ ?_
      | refine LeO.bind ?_ (fun _ => ?_)
theorem diffmatchpatch_zzIndex.mono : ∀ a0 a1 k, LeO (diffmatchpatch_zzIndex.f k a0 a1) (diffmatchpatch_zzIndex.f (k + 1) a0 a1) := by
  intro a0 a1 k
  have ih0 := diffmatchpatch_zzIndex.mono_l k
  unfold diffmatchpatch_zzIndex.f
  repeat' first
      | (with_reducible exact ih0 _ _ _)
      | (with_reducible exact LeO.refl _)
      | (with_reducible exact LeO.none _)
      | (with_reducible refine LeO.ite ?_ ?_)
      | (with_reducible refine LeO.bind ?_ (fun _ => ?_))
      | exact ih0 _ _ _
      | exact LeO.none _
      | refine LeO.ite ?_ ?_
      | refine LeO.bind ?_ (fun _ => ?_)
set_option maxHeartbeats 8000000 in
set_option maxRecDepth 100000 in
theorem diffmatchpatch_zzIndex.calls (k : Nat) (a0 : ByteArray) (a1 : ByteArray) (r : Int) (w : World) (h : diffmatchpatch_zzIndex.f k a0 a1 = some r) :
    Calls Try.prog 15 #[.string a0, .string a1] w fun e w' => e = .returned (.int .i64 r) ∧ Drawn0 w w' := by
  have H : (diffmatchpatch_zzIndex.l0 k a0 a1 0) = some r := h
  clear h
  have H' := Aside0.mk H
  clear H
  go_enter Try.func15, Try.ntmps15
  go_wp2
  go_loopg [5] k (fun kq v5 w' => ∃ (x5_1 : Int), v5 = .int .i64 x5_1 ∧ Aside0 (diffmatchpatch_zzIndex.l0 kq a0 a1 x5_1 = some r) ∧ Aside0 (kq ≤ k) ∧ Drawn0 w w')
  case atStart => exact ⟨(0), (by first | rfl | (simp; done) | (simp [*]; done)), H', ⟨Nat.le_refl _⟩, by repeat (first | exact Drawn0.refl _ | apply Drawn0.step)⟩
  case round =>
    clear H'
    try clear c1
    try clear p2
    obtain ⟨x5_1, rfl, HA, HK1, ⟨m1, rfl⟩⟩ := hrel
    cases gk with
    | zero => exact absurd HA.out (by simp [diffmatchpatch_zzIndex.l0])
    | succ k1 =>
      have H := HA.out
      clear HA
      simp only [diffmatchpatch_zzIndex.l0] at H
      by_cases c3 : (wrap64 (x5_1 + (a1.size : Int))) ≤ (a0.size : Int)
      · rw [if_pos c3] at H
        have c3b0 : decide ((wrap64 (x5_1 + (a1.size : Int))) ≤ (a0.size : Int)) = true := decide_eq_true c3
        clear c3
        by_cases c4 : 0 ≤ x5_1
        · rw [if_pos c4] at H
          have c4b0 := eq_true c4
          have c4b1 : decide (0 ≤ x5_1) = true := decide_eq_true c4
          clear c4
          by_cases c5 : x5_1 ≤ (wrap64 (x5_1 + (a1.size : Int)))
          · rw [if_pos c5] at H
            have c5b0 := eq_true c5
            have c5b1 : decide (x5_1 ≤ (wrap64 (x5_1 + (a1.size : Int)))) = true := decide_eq_true c5
            have c6b0 := eq_true (of_decide_eq_true (by first | (with_reducible assumption) | assumption) : (wrap64 (x5_1 + (a1.size : Int))) ≤ (a0.size : Int))
            by_cases c7 : (a0.extract (x5_1 : Int).toNat ((wrap64 (x5_1 + (a1.size : Int))) : Int).toNat).toList = a1.toList
            · rw [if_pos c7] at H
              have c7b0 : ((a0.extract (x5_1 : Int).toNat ((wrap64 (x5_1 + (a1.size : Int))) : Int).toNat).toList == a1.toList) = true := beq_iff_eq.mpr c7
              have c7b1 : ((a0.extract (x5_1 : Int).toNat ((wrap64 (x5_1 + (a1.size : Int))) : Int).toNat).toList != a1.toList) = false := bne_eq_false_iff_eq.mpr c7
              clear c7
              obtain rfl := Option.some.inj H
              go_wp2
              go_ret
              exact ⟨by first | rfl | (simp; done) | (simp [*]; done), by repeat (first | exact Drawn0.refl _ | apply Drawn0.step)⟩
            · rw [if_neg c7] at H
              have c7b0 : ((a0.extract (x5_1 : Int).toNat ((wrap64 (x5_1 + (a1.size : Int))) : Int).toNat).toList == a1.toList) = false := beq_eq_false_iff_ne.mpr c7
              have c7b1 : ((a0.extract (x5_1 : Int).toNat ((wrap64 (x5_1 + (a1.size : Int))) : Int).toNat).toList != a1.toList) = true := bne_iff_ne.mpr c7
              have H' := Aside0.mk H
              clear H
              go_wp2
              go_roundg k1
              case measure => have := HK1.out; omega
              case rel => exact ⟨(wrap64 (x5_1 + 1)), (by first | rfl | (simp; done) | (simp [*]; done)), H', ⟨by have := HK1.out; omega⟩, by repeat (first | exact Drawn0.refl _ | apply Drawn0.step)⟩
          · rw [if_neg c5] at H
            exact absurd H (by simp)
        · rw [if_neg c4] at H
          exact absurd H (by simp)
      · rw [if_neg c3] at H
        have c3b0 : decide ((wrap64 (x5_1 + (a1.size : Int))) ≤ (a0.size : Int)) = false := decide_eq_false c3
        clear c3
        obtain rfl := Option.some.inj H
        go_wp2
        go_ret
        exact ⟨by first | rfl | (simp; done) | (simp [*]; done), by repeat (first | exact Drawn0.refl _ | apply Drawn0.step)⟩

/-! ### diffmatchpatch_DiffMatchPatch_DiffCommonOverlap: function 12 -/
mutual
def diffmatchpatch_DiffMatchPatch_DiffCommonOverlap.j0 : Nat → ByteArray → ByteArray → Int → Int → Bool → Option (Int)
  | 0, _, _, _, _, _ => none
  | k + 1, x1, x2, x7, x8, x23 => if x23 = true then (some 0) else (if x7 > x8 then (if 0 ≤ (wrap64 (x7 - x8)) then (if (wrap64 (x7 - x8)) ≤ (x1.size : Int) then (diffmatchpatch_DiffMatchPatch_DiffCommonOverlap.j1 k (x1.extract ((wrap64 (x7 - x8)) : Int).toNat x1.size) x2 x7 x8) else (none)) else (none)) else (if x7 < x8 then (if 0 ≤ x7 then (if x7 ≤ (x2.size : Int) then (diffmatchpatch_DiffMatchPatch_DiffCommonOverlap.j1 k x1 (x2.extract 0 (x7 : Int).toNat) x7 x8) else (none)) else (none)) else (diffmatchpatch_DiffMatchPatch_DiffCommonOverlap.j1 k x1 x2 x7 x8)))
def diffmatchpatch_DiffMatchPatch_DiffCommonOverlap.j1 : Nat → ByteArray → ByteArray → Int → Int → Option (Int)
  | 0, _, _, _, _ => none
  | k + 1, x1, x2, x7, x8 => (math_Min.f (i2f x7) (i2f x8)).bind fun t101 => (if (f2iOk t101) = true then (if x1.toList = x2.toList then (some (f2i t101)) else (diffmatchpatch_DiffMatchPatch_DiffCommonOverlap.l0 k x1 x2 (f2i t101) 0 1)) else (none))
def diffmatchpatch_DiffMatchPatch_DiffCommonOverlap.l0 : Nat → ByteArray → ByteArray → Int → Int → Int → Option (Int)
  | 0, _, _, _, _, _ => none
  | k + 1, x1, x2, x9, x10, x11 => if 0 ≤ (wrap64 (x9 - x11)) then (if (wrap64 (x9 - x11)) ≤ (x1.size : Int) then ((diffmatchpatch_zzIndex.f k x2 (x1.extract ((wrap64 (x9 - x11)) : Int).toNat x1.size)).bind fun t102 => (if t102 = (-1) then (some x10) else (if t102 = 0 then (diffmatchpatch_DiffMatchPatch_DiffCommonOverlap.l0 k x1 x2 x9 (wrap64 (x11 + t102)) (wrap64 ((wrap64 (x11 + t102)) + 1))) else (if 0 ≤ (wrap64 (x9 - (wrap64 (x11 + t102)))) then (if (wrap64 (x9 - (wrap64 (x11 + t102)))) ≤ (x1.size : Int) then (if 0 ≤ (wrap64 (x11 + t102)) then (if (wrap64 (x11 + t102)) ≤ (x2.size : Int) then (if (x1.extract ((wrap64 (x9 - (wrap64 (x11 + t102)))) : Int).toNat x1.size).toList = (x2.extract 0 ((wrap64 (x11 + t102)) : Int).toNat).toList then (diffmatchpatch_DiffMatchPatch_DiffCommonOverlap.l0 k x1 x2 x9 (wrap64 (x11 + t102)) (wrap64 ((wrap64 (x11 + t102)) + 1))) else (diffmatchpatch_DiffMatchPatch_DiffCommonOverlap.l0 k x1 x2 x9 x10 (wrap64 (x11 + t102)))) else (none)) else (none)) else (none)) else (none))))) else (none)) else (none)
end
def diffmatchpatch_DiffMatchPatch_DiffCommonOverlap.f (k : Nat)  (a1 : ByteArray) (a2 : ByteArray) : Option (Int) := if (a1.size : Int) = 0 then (diffmatchpatch_DiffMatchPatch_DiffCommonOverlap.j0 k a1 a2 (a1.size : Int) (a2.size : Int) true) else (diffmatchpatch_DiffMatchPatch_DiffCommonOverlap.j0 k a1 a2 (a1.size : Int) (a2.size : Int) ((a2.size : Int) == 0))
theorem diffmatchpatch_DiffMatchPatch_DiffCommonOverlap.mono_l : ∀ k, (∀ y0 y1 y2 y3 y4, LeO (diffmatchpatch_DiffMatchPatch_DiffCommonOverlap.j0 k y0 y1 y2 y3 y4) (diffmatchpatch_DiffMatchPatch_DiffCommonOverlap.j0 (k + 1) y0 y1 y2 y3 y4)) ∧ (∀ y0 y1 y2 y3, LeO (diffmatchpatch_DiffMatchPatch_DiffCommonOverlap.j1 k y0 y1 y2 y3) (diffmatchpatch_DiffMatchPatch_DiffCommonOverlap.j1 (k + 1) y0 y1 y2 y3)) ∧ (∀ y0 y1 y2 y3 y4, LeO (diffmatchpatch_DiffMatchPatch_DiffCommonOverlap.l0 k y0 y1 y2 y3 y4) (diffmatchpatch_DiffMatchPatch_DiffCommonOverlap.l0 (k + 1) y0 y1 y2 y3 y4))
  | 0 => ⟨fun _ _ _ _ _ r h => by simp [diffmatchpatch_DiffMatchPatch_DiffCommonOverlap.j0] at h, fun _ _ _ _ r h => by simp [diffmatchpatch_DiffMatchPatch_DiffCommonOverlap.j1] at h, fun _ _ _ _ _ r h => by simp [diffmatchpatch_DiffMatchPatch_DiffCommonOverlap.l0] at h⟩
  | k + 1 => by
    obtain ⟨ih0, ih1, ih2⟩ := diffmatchpatch_DiffMatchPatch_DiffCommonOverlap.mono_l k
    refine ⟨?_, ?_, ?_⟩
    · intro y0 y1 y2 y3 y4
      unfold diffmatchpatch_DiffMatchPatch_DiffCommonOverlap.j0
      repeat' first
      | (with_reducible exact ih0 _ _ _ _ _)
      | (with_reducible exact ih1 _ _ _ _)
      | (with_reducible exact ih2 _ _ _ _ _)
      | (with_reducible exact diffmatchpatch_zzIndex.mono _ _ _)
      | (with_reducible exact LeO.refl _)
      | (with_reducible exact LeO.none _)
      | (with_reducible refine LeO.ite ?_ ?_)
      | (with_reducible refine LeO.bind ?_ (fun _ => ?_))
      | exact ih0 _ _ _ _ _
      | exact ih1 _ _ _ _
      | exact ih2 _ _ _ _ _
      | exact diffmatchpatch_zzIndex.mono _ _ _
      | exact LeO.none _
      | refine LeO.ite ?_ ?_
      | refine LeO.bind ?_ (fun _ => ?_)
    · intro y0 y1 y2 y3
      unfold diffmatchpatch_DiffMatchPatch_DiffCommonOverlap.j1
      repeat' first
      | (with_reducible exact ih0 _ _ _ _ _)
      | (with_reducible exact ih1 _ _ _ _)
      | (with_reducible exact ih2 _ _ _ _ _)
      | (with_reducible exact diffmatchpatch_zzIndex.mono _ _ _)
      | (with_reducible exact LeO.refl _)
      | (with_reducible exact LeO.none _)
      | (with_reducible refine LeO.ite ?_ ?_)
      | (with_reducible refine LeO.bind ?_ (fun _ => ?_))
      | exact ih0 _ _ _ _ _
      | exact ih1 _ _ _ _
      | exact ih2 _ _ _ _ _
      | exact diffmatchpatch_zzIndex.mono _ _ _
      | exact LeO.none _
      | refine LeO.ite ?_ ?_
      | refine LeO.bind ?_ (fun _ => ?_)
    · intro y0 y1 y2 y3 y4
      unfold diffmatchpatch_DiffMatchPatch_DiffCommonOverlap.l0
      repeat' first
      | (with_reducible exact ih0 _ _ _ _ _)
      | (with_reducible exact ih1 _ _ _ _)
      | (with_reducible exact ih2 _ _ _ _ _)
      | (with_reducible exact diffmatchpatch_zzIndex.mono _ _ _)
      | (with_reducible exact LeO.refl _)
      | (with_reducible exact LeO.none _)
      | (with_reducible refine LeO.ite ?_ ?_)
      | (with_reducible refine LeO.bind ?_ (fun _ => ?_))
      | exact ih0 _ _ _ _ _
      | exact ih1 _ _ _ _
      | exact ih2 _ _ _ _ _
      | exact diffmatchpatch_zzIndex.mono _ _ _
      | exact LeO.none _
      | refine LeO.ite ?_ ?_
      | refine LeO.bind ?_ (fun _ => ?_)
theorem diffmatchpatch_DiffMatchPatch_DiffCommonOverlap.mono : ∀ a0 a1 k, LeO (diffmatchpatch_DiffMatchPatch_DiffCommonOverlap.f k a0 a1) (diffmatchpatch_DiffMatchPatch_DiffCommonOverlap.f (k + 1) a0 a1) := by
  intro a0 a1 k
  obtain ⟨ih0, ih1, ih2⟩ := diffmatchpatch_DiffMatchPatch_DiffCommonOverlap.mono_l k
  unfold diffmatchpatch_DiffMatchPatch_DiffCommonOverlap.f
  repeat' first
      | (with_reducible exact ih0 _ _ _ _ _)
      | (with_reducible exact ih1 _ _ _ _)
      | (with_reducible exact ih2 _ _ _ _ _)
      | (with_reducible exact diffmatchpatch_zzIndex.mono _ _ _)
      | (with_reducible exact LeO.refl _)
      | (with_reducible exact LeO.none _)
      | (with_reducible refine LeO.ite ?_ ?_)
      | (with_reducible refine LeO.bind ?_ (fun _ => ?_))
      | exact ih0 _ _ _ _ _
      | exact ih1 _ _ _ _
      | exact ih2 _ _ _ _ _
      | exact diffmatchpatch_zzIndex.mono _ _ _
      | exact LeO.none _
      | refine LeO.ite ?_ ?_
      | refine LeO.bind ?_ (fun _ => ?_)
set_option maxHeartbeats 8000000 in
set_option maxRecDepth 100000 in
theorem diffmatchpatch_DiffMatchPatch_DiffCommonOverlap.calls (k : Nat) (p0_ : Value) (a1 : ByteArray) (a2 : ByteArray) (r : Int) (w : World) (h : diffmatchpatch_DiffMatchPatch_DiffCommonOverlap.f k a1 a2 = some r) :
    Calls Try.prog 12 #[p0_, .string a1, .string a2] w fun e w' => e = .returned (.int .i64 r) ∧ Drawn0 w w' := by
  have H : (if (a1.size : Int) = 0 then (diffmatchpatch_DiffMatchPatch_DiffCommonOverlap.j0 k a1 a2 (a1.size : Int) (a2.size : Int) true) else (diffmatchpatch_DiffMatchPatch_DiffCommonOverlap.j0 k a1 a2 (a1.size : Int) (a2.size : Int) ((a2.size : Int) == 0))) = some r := h
  clear h
  have HC4 := Aside0.mk H
  clear H
  go_enter Try.func12, Try.ntmps12
  go_upto_region 3 with (fail)
  repeat (go_quiet (fail); go_upto_region 3 with (fail))
  go_cut [23] (fun v23 wc => ∃ (kq : Nat) (x23_3 : Bool), v23 = .bool x23_3 ∧ Aside0 (diffmatchpatch_DiffMatchPatch_DiffCommonOverlap.j0 kq a1 a2 (a1.size : Int) (a2.size : Int) x23_3 = some r) ∧ Aside0 (kq ≤ k) ∧ Drawn0 w wc)
  case first =>
    have H := HC4.out
    clear HC4
    by_cases c5 : (a1.size : Int) = 0
    · rw [if_pos c5] at H
      have c5b0 : ((a1.size : Int) == 0) = true := beq_iff_eq.mpr c5
      have c5b1 : ((a1.size : Int) != 0) = false := bne_eq_false_iff_eq.mpr c5
      clear c5
      (first | rw [c5b0] | (simp only [i64_w, i32_w]; rw [c5b0]) | rw [c5b1] | skip)
      have H' := Aside0.mk H
      clear H
      go_wp2
      repeat (go_quiet (fail); try go_wp2)
      go_meet
      case rel => exact ⟨_, (true), (by first | rfl | (simp; done) | (simp [*]; done)), H', ⟨by first | omega | exact Nat.le_refl _⟩, by repeat (first | exact Drawn0.refl _ | apply Drawn0.step)⟩
    · rw [if_neg c5] at H
      have c5b0 : ((a1.size : Int) == 0) = false := beq_eq_false_iff_ne.mpr c5
      have c5b1 : ((a1.size : Int) != 0) = true := bne_iff_ne.mpr c5
      (first | rw [c5b0] | (simp only [i64_w, i32_w]; rw [c5b0]) | rw [c5b1] | skip)
      have H' := Aside0.mk H
      clear H
      go_wp2
      repeat (go_quiet (fail); try go_wp2)
      go_meet
      case rel => exact ⟨_, (((a2.size : Int) == 0)), (by first | rfl | (simp; done) | (simp [*]; done)), H', ⟨by first | omega | exact Nat.le_refl _⟩, by repeat (first | exact Drawn0.refl _ | apply Drawn0.step)⟩
  case rest =>
    clear HC4
    try clear c1
    try clear p2
    try clear c5
    try clear c5b0
    try clear c5b1
    obtain ⟨kq, x23_3, rfl, HA, HJ3, ⟨mc3, rfl⟩⟩ := hcut
    cases kq with
    | zero => exact absurd HA.out (by simp [diffmatchpatch_DiffMatchPatch_DiffCommonOverlap.j0])
    | succ kj3 =>
      have H := HA.out
      clear HA
      simp only [diffmatchpatch_DiffMatchPatch_DiffCommonOverlap.j0] at H
      by_cases c6 : x23_3 = true
      · subst c6
        have H1 : (some 0) = some r := by rw [if_pos rfl] at H; exact H
        clear H
        have H := H1
        clear H1
        obtain rfl := Option.some.inj H
        go_wp2
        repeat (go_quiet (fail); try go_wp2)
        go_ret
        exact ⟨by first | rfl | (simp; done) | (simp [*]; done), by repeat (first | exact Drawn0.refl _ | apply Drawn0.step)⟩
      · replace c6 := Bool.eq_false_iff.mpr c6
        subst c6
        have H1 : (if (a1.size : Int) > (a2.size : Int) then (if 0 ≤ (wrap64 ((a1.size : Int) - (a2.size : Int))) then (if (wrap64 ((a1.size : Int) - (a2.size : Int))) ≤ (a1.size : Int) then (diffmatchpatch_DiffMatchPatch_DiffCommonOverlap.j1 kj3 (a1.extract ((wrap64 ((a1.size : Int) - (a2.size : Int))) : Int).toNat a1.size) a2 (a1.size : Int) (a2.size : Int)) else (none)) else (none)) else (if (a1.size : Int) < (a2.size : Int) then (if 0 ≤ (a1.size : Int) then (if (a1.size : Int) ≤ (a2.size : Int) then (diffmatchpatch_DiffMatchPatch_DiffCommonOverlap.j1 kj3 a1 (a2.extract 0 ((a1.size : Int) : Int).toNat) (a1.size : Int) (a2.size : Int)) else (none)) else (none)) else (diffmatchpatch_DiffMatchPatch_DiffCommonOverlap.j1 kj3 a1 a2 (a1.size : Int) (a2.size : Int)))) = some r := by rw [if_neg (show ¬ (false = true) by decide)] at H; exact H
        clear H
        have H := H1
        clear H1
        have HC7 := Aside0.mk H
        clear H
        go_upto_if 26 with (fail)
        repeat (go_quiet (fail); go_upto_if 26 with (fail))
        go_cut [1, 2] (fun v1 v2 wc => ∃ (kq : Nat) (x1_6 : ByteArray) (x2_6 : ByteArray), v1 = .string x1_6 ∧ v2 = .string x2_6 ∧ Aside0 (diffmatchpatch_DiffMatchPatch_DiffCommonOverlap.j1 kq x1_6 x2_6 (a1.size : Int) (a2.size : Int) = some r) ∧ Aside0 (kq ≤ kj3) ∧ Drawn0 w wc)
        case first =>
          have H := HC7.out
          clear HC7
          by_cases c8 : (a1.size : Int) > (a2.size : Int)
          · rw [if_pos c8] at H
            have c8b0 : decide ((a2.size : Int) < (a1.size : Int)) = true := decide_eq_true c8
            have c8b1 : decide (a2.size < a1.size) = true := decide_eq_true (Int.ofNat_lt.mp c8)
            clear c8
            (first | rw [c8b0] | (simp only [i64_w, i32_w]; rw [c8b0]) | rw [c8b1] | skip)
            obtain ⟨ji9, hji9⟩ : ∃ j_ : Int, (wrap64 ((a1.size : Int) - (a2.size : Int))) = j_ := ⟨_, rfl⟩
            replace H : (if 0 ≤ (ji9) then (if (ji9) ≤ (a1.size : Int) then (diffmatchpatch_DiffMatchPatch_DiffCommonOverlap.j1 kj3 (a1.extract ((ji9) : Int).toNat a1.size) a2 (a1.size : Int) (a2.size : Int)) else (none)) else (none)) = some r := by first | (rw [hji9] at H; exact H) | (simp only [hji9] at H ⊢; exact H)
            have hji9w : (IntKind.i64.wrap ((a1.size : Int) - (a2.size : Int))) = ji9 := (i64_w _).trans hji9
            by_cases c10 : 0 ≤ (ji9)
            · rw [if_pos c10] at H
              have c10b0 := eq_true c10
              have c10b1 : decide (0 ≤ (ji9)) = true := decide_eq_true c10
              clear c10
              by_cases c11 : (ji9) ≤ (a1.size : Int)
              · rw [if_pos c11] at H
                have c11b0 := eq_true c11
                have c11b1 : decide ((ji9) ≤ (a1.size : Int)) = true := decide_eq_true c11
                clear c11
                have H' := Aside0.mk H
                clear H
                go_wp2
                repeat (go_quiet (fail); try go_wp2)
                go_meet
                case rel => exact ⟨_, (a1.extract ((ji9) : Int).toNat a1.size), (a2), (by first | rfl | (simp; done) | (simp only [← hji9] <;> (first | rfl | simp)) | (simp [*]; done)), (by first | rfl | (simp; done) | (simp [*]; done)), H', ⟨by have := HJ3.out; first | omega | exact Nat.le_refl _⟩, by repeat (first | exact Drawn0.refl _ | apply Drawn0.step)⟩
              · rw [if_neg c11] at H
                exact absurd H (by simp)
            · rw [if_neg c10] at H
              exact absurd H (by simp)
          · rw [if_neg c8] at H
            have c8b0 : decide ((a2.size : Int) < (a1.size : Int)) = false := decide_eq_false c8
            have c8b1 : decide (a2.size < a1.size) = false := decide_eq_false (fun h => c8 (Int.ofNat_lt.mpr h))
            clear c8
            (first | rw [c8b0] | (simp only [i64_w, i32_w]; rw [c8b0]) | rw [c8b1] | skip)
            by_cases c12 : (a1.size : Int) < (a2.size : Int)
            · rw [if_pos c12] at H
              have c12b0 : decide ((a1.size : Int) < (a2.size : Int)) = true := decide_eq_true c12
              have c12b1 : decide (a1.size < a2.size) = true := decide_eq_true (Int.ofNat_lt.mp c12)
              clear c12
              by_cases c13 : 0 ≤ (a1.size : Int)
              · rw [if_pos c13] at H
                have c13b0 := eq_true c13
                have c13b1 : decide (0 ≤ (a1.size : Int)) = true := decide_eq_true c13
                clear c13
                by_cases c14 : (a1.size : Int) ≤ (a2.size : Int)
                · rw [if_pos c14] at H
                  have c14b0 := eq_true c14
                  have c14b1 : decide ((a1.size : Int) ≤ (a2.size : Int)) = true := decide_eq_true c14
                  clear c14
                  have H' := Aside0.mk H
                  clear H
                  go_wp2
                  repeat (go_quiet (fail); try go_wp2)
                  go_meet
                  case rel => exact ⟨_, (a1), (a2.extract 0 ((a1.size : Int) : Int).toNat), (by first | rfl | (simp; done) | (simp [*]; done)), (by first | rfl | (simp; done) | (simp [*]; done)), H', ⟨by have := HJ3.out; first | omega | exact Nat.le_refl _⟩, by repeat (first | exact Drawn0.refl _ | apply Drawn0.step)⟩
                · rw [if_neg c14] at H
                  exact absurd H (by simp)
              · rw [if_neg c13] at H
                exact absurd H (by simp)
            · rw [if_neg c12] at H
              have c12b0 : decide ((a1.size : Int) < (a2.size : Int)) = false := decide_eq_false c12
              have c12b1 : decide (a1.size < a2.size) = false := decide_eq_false (fun h => c12 (Int.ofNat_lt.mpr h))
              clear c12
              have H' := Aside0.mk H
              clear H
              go_wp2
              repeat (go_quiet (fail); try go_wp2)
              go_meet
              case rel => exact ⟨_, (a1), (a2), (by first | rfl | (simp; done) | (simp [*]; done)), (by first | rfl | (simp; done) | (simp [*]; done)), H', ⟨by have := HJ3.out; first | omega | exact Nat.le_refl _⟩, by repeat (first | exact Drawn0.refl _ | apply Drawn0.step)⟩
        case rest =>
          clear HC7
          try clear c1
          try clear p2
          try clear c3
          try clear c5
          try clear c5b0
          try clear c5b1
          try clear c6
          try clear p6
          try clear c8
          try clear c8b0
          try clear c8b1
          try clear c10
          try clear c10b0
          try clear c10b1
          try clear c11
          try clear c11b0
          try clear c11b1
          try clear c12
          try clear c12b0
          try clear c12b1
          try clear c13
          try clear c13b0
          try clear c13b1
          try clear c14
          try clear c14b0
          try clear c14b1
          try clear p2
          obtain ⟨kq, x1_6, x2_6, rfl, rfl, HA, HJ6, ⟨mc6, rfl⟩⟩ := hcut
          cases kq with
          | zero => exact absurd HA.out (by simp [diffmatchpatch_DiffMatchPatch_DiffCommonOverlap.j1])
          | succ kj6 =>
            have H := HA.out
            clear HA
            simp only [diffmatchpatch_DiffMatchPatch_DiffCommonOverlap.j1] at H
            replace H := Option.bind_eq_some_iff.mp H
            obtain ⟨t101, A150, H⟩ := H
            replace H : (if (f2iOk t101) = true then (if x1_6.toList = x2_6.toList then (some (f2i t101)) else (diffmatchpatch_DiffMatchPatch_DiffCommonOverlap.l0 kj6 x1_6 x2_6 (f2i t101) 0 1)) else (none)) = some r := H
            have A15 := Aside0.mk A150
            clear A150
            by_cases c16 : (f2iOk t101) = true
            · rw [if_pos c16] at H
              have c16b0 : (f2iOk t101) = true := c16
              clear c16
              by_cases c17 : x1_6.toList = x2_6.toList
              · rw [if_pos c17] at H
                have c17b0 : (x1_6.toList == x2_6.toList) = true := beq_iff_eq.mpr c17
                have c17b1 : (x1_6.toList != x2_6.toList) = false := bne_eq_false_iff_eq.mpr c17
                clear c17
                obtain rfl := Option.some.inj H
                have hfl18 := run_i2f (P := Try.prog) Try.underlying3 Try.underlying37 (a1.size : Int)
                have hfl19 := run_i2f (P := Try.prog) Try.underlying3 Try.underlying37 (a2.size : Int)
                go_wp2_with (first | (go_at_call 14; (with_reducible refine (math_Min.calls (i2f (a1.size : Int)) (i2f (a2.size : Int)) t101 _ A15.out).mono ?_); rintro e w' ⟨rfl, ⟨nd, rfl⟩⟩; (try first | exact ⟨rfl, _, World.drewN_drewN _ _ _⟩ | exact ⟨rfl, _, Eq.trans (World.drewN_drewN _ _ _) (congrArg (World.drewN _) (Nat.add_assoc _ _ _))⟩); have hfl20 := run_f2i (P := Try.prog) Try.underlying37 Try.underlying3 t101 (by first | (with_reducible assumption) | assumption)))
                repeat (go_quiet (first | (go_at_call 14; (with_reducible refine (math_Min.calls (i2f (a1.size : Int)) (i2f (a2.size : Int)) t101 _ A15.out).mono ?_); rintro e w' ⟨rfl, ⟨nd, rfl⟩⟩; (try first | exact ⟨rfl, _, World.drewN_drewN _ _ _⟩ | exact ⟨rfl, _, Eq.trans (World.drewN_drewN _ _ _) (congrArg (World.drewN _) (Nat.add_assoc _ _ _))⟩); have hfl20 := run_f2i (P := Try.prog) Try.underlying37 Try.underlying3 t101 (by first | (with_reducible assumption) | assumption))); try go_wp2_with (first | (go_at_call 14; (with_reducible refine (math_Min.calls (i2f (a1.size : Int)) (i2f (a2.size : Int)) t101 _ A15.out).mono ?_); rintro e w' ⟨rfl, ⟨nd, rfl⟩⟩; (try first | exact ⟨rfl, _, World.drewN_drewN _ _ _⟩ | exact ⟨rfl, _, Eq.trans (World.drewN_drewN _ _ _) (congrArg (World.drewN _) (Nat.add_assoc _ _ _))⟩); have hfl20 := run_f2i (P := Try.prog) Try.underlying37 Try.underlying3 t101 (by first | (with_reducible assumption) | assumption))))
                go_ret
                exact ⟨by first | rfl | (simp; done) | (simp [*]; done), by repeat (first | exact Drawn0.refl _ | apply Drawn0.step)⟩
              · rw [if_neg c17] at H
                have c17b0 : (x1_6.toList == x2_6.toList) = false := beq_eq_false_iff_ne.mpr c17
                have c17b1 : (x1_6.toList != x2_6.toList) = true := bne_iff_ne.mpr c17
                have H' := Aside0.mk H
                clear H
                have hfl21 := run_i2f (P := Try.prog) Try.underlying3 Try.underlying37 (a1.size : Int)
                have hfl22 := run_i2f (P := Try.prog) Try.underlying3 Try.underlying37 (a2.size : Int)
                go_wp2_with (first | (go_at_call 14; (with_reducible refine (math_Min.calls (i2f (a1.size : Int)) (i2f (a2.size : Int)) t101 _ A15.out).mono ?_); rintro e w' ⟨rfl, ⟨nd, rfl⟩⟩; (try first | exact ⟨rfl, _, World.drewN_drewN _ _ _⟩ | exact ⟨rfl, _, Eq.trans (World.drewN_drewN _ _ _) (congrArg (World.drewN _) (Nat.add_assoc _ _ _))⟩); have hfl23 := run_f2i (P := Try.prog) Try.underlying37 Try.underlying3 t101 (by first | (with_reducible assumption) | assumption)))
                repeat (go_quiet (first | (go_at_call 14; (with_reducible refine (math_Min.calls (i2f (a1.size : Int)) (i2f (a2.size : Int)) t101 _ A15.out).mono ?_); rintro e w' ⟨rfl, ⟨nd, rfl⟩⟩; (try first | exact ⟨rfl, _, World.drewN_drewN _ _ _⟩ | exact ⟨rfl, _, Eq.trans (World.drewN_drewN _ _ _) (congrArg (World.drewN _) (Nat.add_assoc _ _ _))⟩); have hfl23 := run_f2i (P := Try.prog) Try.underlying37 Try.underlying3 t101 (by first | (with_reducible assumption) | assumption))); try go_wp2_with (first | (go_at_call 14; (with_reducible refine (math_Min.calls (i2f (a1.size : Int)) (i2f (a2.size : Int)) t101 _ A15.out).mono ?_); rintro e w' ⟨rfl, ⟨nd, rfl⟩⟩; (try first | exact ⟨rfl, _, World.drewN_drewN _ _ _⟩ | exact ⟨rfl, _, Eq.trans (World.drewN_drewN _ _ _) (congrArg (World.drewN _) (Nat.add_assoc _ _ _))⟩); have hfl23 := run_f2i (P := Try.prog) Try.underlying37 Try.underlying3 t101 (by first | (with_reducible assumption) | assumption))))
                go_loopg [10, 11] kj6 (fun kq v10 v11 w' => ∃ (x10_3 : Int) (x11_3 : Int), v10 = .int .i64 x10_3 ∧ v11 = .int .i64 x11_3 ∧ Aside0 (diffmatchpatch_DiffMatchPatch_DiffCommonOverlap.l0 kq x1_6 x2_6 (f2i t101) x10_3 x11_3 = some r) ∧ Aside0 (kq ≤ kj6) ∧ Drawn0 w w')
                case atStart => exact ⟨(0), (1), (by first | rfl | (simp; done) | (simp [*]; done)), (by first | rfl | (simp; done) | (simp [*]; done)), H', ⟨Nat.le_refl _⟩, by repeat (first | exact Drawn0.refl _ | apply Drawn0.step)⟩
                case round =>
                  clear H'
                  try clear c1
                  try clear p2
                  try clear c3
                  try clear c5
                  try clear c5b0
                  try clear c5b1
                  try clear c6
                  try clear p6
                  try clear c8
                  try clear c8b0
                  try clear c8b1
                  try clear c10
                  try clear c10b0
                  try clear c10b1
                  try clear c11
                  try clear c11b0
                  try clear c11b1
                  try clear c12
                  try clear c12b0
                  try clear c12b1
                  try clear c13
                  try clear c13b0
                  try clear c13b1
                  try clear c14
                  try clear c14b0
                  try clear c14b1
                  try clear c16
                  try clear c16b0
                  try clear c17
                  try clear c17b0
                  try clear c17b1
                  try clear p2
                  try clear p6
                  obtain ⟨x10_3, x11_3, rfl, rfl, HA, HK3, ⟨m3, rfl⟩⟩ := hrel
                  cases gk with
                  | zero => exact absurd HA.out (by simp [diffmatchpatch_DiffMatchPatch_DiffCommonOverlap.l0])
                  | succ k3 =>
                    have H := HA.out
                    clear HA
                    simp only [diffmatchpatch_DiffMatchPatch_DiffCommonOverlap.l0] at H
                    obtain ⟨ji24, hji24⟩ : ∃ j_ : Int, (wrap64 ((f2i t101) - x11_3)) = j_ := ⟨_, rfl⟩
                    replace H : (if 0 ≤ (ji24) then (if (ji24) ≤ (x1_6.size : Int) then ((diffmatchpatch_zzIndex.f k3 x2_6 (x1_6.extract ((ji24) : Int).toNat x1_6.size)).bind fun t102 => (if t102 = (-1) then (some x10_3) else (if t102 = 0 then (diffmatchpatch_DiffMatchPatch_DiffCommonOverlap.l0 k3 x1_6 x2_6 (f2i t101) (wrap64 (x11_3 + t102)) (wrap64 ((wrap64 (x11_3 + t102)) + 1))) else (if 0 ≤ (wrap64 ((f2i t101) - (wrap64 (x11_3 + t102)))) then (if (wrap64 ((f2i t101) - (wrap64 (x11_3 + t102)))) ≤ (x1_6.size : Int) then (if 0 ≤ (wrap64 (x11_3 + t102)) then (if (wrap64 (x11_3 + t102)) ≤ (x2_6.size : Int) then (if (x1_6.extract ((wrap64 ((f2i t101) - (wrap64 (x11_3 + t102)))) : Int).toNat x1_6.size).toList = (x2_6.extract 0 ((wrap64 (x11_3 + t102)) : Int).toNat).toList then (diffmatchpatch_DiffMatchPatch_DiffCommonOverlap.l0 k3 x1_6 x2_6 (f2i t101) (wrap64 (x11_3 + t102)) (wrap64 ((wrap64 (x11_3 + t102)) + 1))) else (diffmatchpatch_DiffMatchPatch_DiffCommonOverlap.l0 k3 x1_6 x2_6 (f2i t101) x10_3 (wrap64 (x11_3 + t102)))) else (none)) else (none)) else (none)) else (none))))) else (none)) else (none)) = some r := by first | (rw [hji24] at H; exact H) | (simp only [hji24] at H ⊢; exact H)
                    have hji24w : (IntKind.i64.wrap ((f2i t101) - x11_3)) = ji24 := (i64_w _).trans hji24
                    by_cases c25 : 0 ≤ (ji24)
                    · rw [if_pos c25] at H
                      have c25b0 := eq_true c25
                      have c25b1 : decide (0 ≤ (ji24)) = true := decide_eq_true c25
                      clear c25
                      by_cases c26 : (ji24) ≤ (x1_6.size : Int)
                      · rw [if_pos c26] at H
                        have c26b0 := eq_true c26
                        have c26b1 : decide ((ji24) ≤ (x1_6.size : Int)) = true := decide_eq_true c26
                        clear c26
                        replace H := Option.bind_eq_some_iff.mp H
                        obtain ⟨t102, A270, H⟩ := H
                        replace H : (if t102 = (-1) then (some x10_3) else (if t102 = 0 then (diffmatchpatch_DiffMatchPatch_DiffCommonOverlap.l0 k3 x1_6 x2_6 (f2i t101) (wrap64 (x11_3 + t102)) (wrap64 ((wrap64 (x11_3 + t102)) + 1))) else (if 0 ≤ (wrap64 ((f2i t101) - (wrap64 (x11_3 + t102)))) then (if (wrap64 ((f2i t101) - (wrap64 (x11_3 + t102)))) ≤ (x1_6.size : Int) then (if 0 ≤ (wrap64 (x11_3 + t102)) then (if (wrap64 (x11_3 + t102)) ≤ (x2_6.size : Int) then (if (x1_6.extract ((wrap64 ((f2i t101) - (wrap64 (x11_3 + t102)))) : Int).toNat x1_6.size).toList = (x2_6.extract 0 ((wrap64 (x11_3 + t102)) : Int).toNat).toList then (diffmatchpatch_DiffMatchPatch_DiffCommonOverlap.l0 k3 x1_6 x2_6 (f2i t101) (wrap64 (x11_3 + t102)) (wrap64 ((wrap64 (x11_3 + t102)) + 1))) else (diffmatchpatch_DiffMatchPatch_DiffCommonOverlap.l0 k3 x1_6 x2_6 (f2i t101) x10_3 (wrap64 (x11_3 + t102)))) else (none)) else (none)) else (none)) else (none)))) = some r := H
                        have A27 := Aside0.mk A270
                        clear A270
                        by_cases c28 : t102 = (-1)
                        · rw [if_pos c28] at H
                          have c28b0 : (t102 == (-1)) = true := beq_iff_eq.mpr c28
                          have c28b1 : (t102 != (-1)) = false := bne_eq_false_iff_eq.mpr c28
                          clear c28
                          obtain rfl := Option.some.inj H
                          go_wp2_with (first | (go_at_call 15; (with_reducible refine (diffmatchpatch_zzIndex.calls k3 x2_6 (x1_6.extract ((ji24) : Int).toNat x1_6.size) t102 _ A27.out).mono ?_); rintro e w' ⟨rfl, ⟨nd, rfl⟩⟩; (try first | exact ⟨rfl, _, World.drewN_drewN _ _ _⟩ | exact ⟨rfl, _, Eq.trans (World.drewN_drewN _ _ _) (congrArg (World.drewN _) (Nat.add_assoc _ _ _))⟩)))
                          repeat (go_quiet (first | (go_at_call 15; (with_reducible refine (diffmatchpatch_zzIndex.calls k3 x2_6 (x1_6.extract ((ji24) : Int).toNat x1_6.size) t102 _ A27.out).mono ?_); rintro e w' ⟨rfl, ⟨nd, rfl⟩⟩; (try first | exact ⟨rfl, _, World.drewN_drewN _ _ _⟩ | exact ⟨rfl, _, Eq.trans (World.drewN_drewN _ _ _) (congrArg (World.drewN _) (Nat.add_assoc _ _ _))⟩))); try go_wp2_with (first | (go_at_call 15; (with_reducible refine (diffmatchpatch_zzIndex.calls k3 x2_6 (x1_6.extract ((ji24) : Int).toNat x1_6.size) t102 _ A27.out).mono ?_); rintro e w' ⟨rfl, ⟨nd, rfl⟩⟩; (try first | exact ⟨rfl, _, World.drewN_drewN _ _ _⟩ | exact ⟨rfl, _, Eq.trans (World.drewN_drewN _ _ _) (congrArg (World.drewN _) (Nat.add_assoc _ _ _))⟩))))
                          go_ret
                          exact ⟨by first | rfl | (simp; done) | (simp only [← hji24] <;> (first | rfl | simp)) | (simp [*]; done), by repeat (first | exact Drawn0.refl _ | apply Drawn0.step)⟩
                        · rw [if_neg c28] at H
                          have c28b0 : (t102 == (-1)) = false := beq_eq_false_iff_ne.mpr c28
                          have c28b1 : (t102 != (-1)) = true := bne_iff_ne.mpr c28
                          by_cases c29 : t102 = 0
                          · rw [if_pos c29] at H
                            have c29b0 : (t102 == 0) = true := beq_iff_eq.mpr c29
                            have c29b1 : (t102 != 0) = false := bne_eq_false_iff_eq.mpr c29
                            clear c29
                            have H' := Aside0.mk H
                            clear H
                            go_wp2_with (first | (go_at_call 15; (with_reducible refine (diffmatchpatch_zzIndex.calls k3 x2_6 (x1_6.extract ((ji24) : Int).toNat x1_6.size) t102 _ A27.out).mono ?_); rintro e w' ⟨rfl, ⟨nd, rfl⟩⟩; (try first | exact ⟨rfl, _, World.drewN_drewN _ _ _⟩ | exact ⟨rfl, _, Eq.trans (World.drewN_drewN _ _ _) (congrArg (World.drewN _) (Nat.add_assoc _ _ _))⟩)))
                            repeat (go_quiet (first | (go_at_call 15; (with_reducible refine (diffmatchpatch_zzIndex.calls k3 x2_6 (x1_6.extract ((ji24) : Int).toNat x1_6.size) t102 _ A27.out).mono ?_); rintro e w' ⟨rfl, ⟨nd, rfl⟩⟩; (try first | exact ⟨rfl, _, World.drewN_drewN _ _ _⟩ | exact ⟨rfl, _, Eq.trans (World.drewN_drewN _ _ _) (congrArg (World.drewN _) (Nat.add_assoc _ _ _))⟩))); try go_wp2_with (first | (go_at_call 15; (with_reducible refine (diffmatchpatch_zzIndex.calls k3 x2_6 (x1_6.extract ((ji24) : Int).toNat x1_6.size) t102 _ A27.out).mono ?_); rintro e w' ⟨rfl, ⟨nd, rfl⟩⟩; (try first | exact ⟨rfl, _, World.drewN_drewN _ _ _⟩ | exact ⟨rfl, _, Eq.trans (World.drewN_drewN _ _ _) (congrArg (World.drewN _) (Nat.add_assoc _ _ _))⟩))))
                            go_roundg k3
                            case measure => have := HJ3.out; have := HJ6.out; have := HK3.out; omega
                            case rel => exact ⟨(wrap64 (x11_3 + t102)), (wrap64 ((wrap64 (x11_3 + t102)) + 1)), (by first | rfl | (simp; done) | (simp [*]; done)), (by first | rfl | (simp; done) | (simp [*]; done)), H', ⟨by have := HJ3.out; have := HJ6.out; have := HK3.out; omega⟩, by repeat (first | exact Drawn0.refl _ | apply Drawn0.step)⟩
                          · rw [if_neg c29] at H
                            have c29b0 : (t102 == 0) = false := beq_eq_false_iff_ne.mpr c29
                            have c29b1 : (t102 != 0) = true := bne_iff_ne.mpr c29
                            obtain ⟨ji30, hji30⟩ : ∃ j_ : Int, (wrap64 ((f2i t101) - (wrap64 (x11_3 + t102)))) = j_ := ⟨_, rfl⟩
                            replace H : (if 0 ≤ (ji30) then (if (ji30) ≤ (x1_6.size : Int) then (if 0 ≤ (wrap64 (x11_3 + t102)) then (if (wrap64 (x11_3 + t102)) ≤ (x2_6.size : Int) then (if (x1_6.extract ((ji30) : Int).toNat x1_6.size).toList = (x2_6.extract 0 ((wrap64 (x11_3 + t102)) : Int).toNat).toList then (diffmatchpatch_DiffMatchPatch_DiffCommonOverlap.l0 k3 x1_6 x2_6 (f2i t101) (wrap64 (x11_3 + t102)) (wrap64 ((wrap64 (x11_3 + t102)) + 1))) else (diffmatchpatch_DiffMatchPatch_DiffCommonOverlap.l0 k3 x1_6 x2_6 (f2i t101) x10_3 (wrap64 (x11_3 + t102)))) else (none)) else (none)) else (none)) else (none)) = some r := by first | (rw [hji30] at H; exact H) | (simp only [hji30] at H ⊢; exact H)
                            (try rw [hji30] at A27)
                            have hji30w : (IntKind.i64.wrap ((f2i t101) - (wrap64 (x11_3 + t102)))) = ji30 := (i64_w _).trans hji30
                            by_cases c31 : 0 ≤ (ji30)
                            · rw [if_pos c31] at H
                              have c31b0 := eq_true c31
                              have c31b1 : decide (0 ≤ (ji30)) = true := decide_eq_true c31
                              clear c31
                              by_cases c32 : (ji30) ≤ (x1_6.size : Int)
                              · rw [if_pos c32] at H
                                have c32b0 := eq_true c32
                                have c32b1 : decide ((ji30) ≤ (x1_6.size : Int)) = true := decide_eq_true c32
                                clear c32
                                obtain ⟨ji33, hji33⟩ : ∃ j_ : Int, (wrap64 (x11_3 + t102)) = j_ := ⟨_, rfl⟩
                                replace H : (if 0 ≤ (ji33) then (if (ji33) ≤ (x2_6.size : Int) then (if (x1_6.extract ((ji30) : Int).toNat x1_6.size).toList = (x2_6.extract 0 ((ji33) : Int).toNat).toList then (diffmatchpatch_DiffMatchPatch_DiffCommonOverlap.l0 k3 x1_6 x2_6 (f2i t101) ji33 (wrap64 ((ji33) + 1))) else (diffmatchpatch_DiffMatchPatch_DiffCommonOverlap.l0 k3 x1_6 x2_6 (f2i t101) x10_3 ji33)) else (none)) else (none)) = some r := by first | (rw [hji33] at H; exact H) | (simp only [hji33] at H ⊢; exact H)
                                (try rw [hji33] at A27)
                                have hji33w : (IntKind.i64.wrap (x11_3 + t102)) = ji33 := (i64_w _).trans hji33
                                (try rw [hji33] at hji30w)
                                by_cases c34 : 0 ≤ (ji33)
                                · rw [if_pos c34] at H
                                  have c34b0 := eq_true c34
                                  have c34b1 : decide (0 ≤ (ji33)) = true := decide_eq_true c34
                                  clear c34
                                  by_cases c35 : (ji33) ≤ (x2_6.size : Int)
                                  · rw [if_pos c35] at H
                                    have c35b0 := eq_true c35
                                    have c35b1 : decide ((ji33) ≤ (x2_6.size : Int)) = true := decide_eq_true c35
                                    clear c35
                                    by_cases c36 : (x1_6.extract ((ji30) : Int).toNat x1_6.size).toList = (x2_6.extract 0 ((ji33) : Int).toNat).toList
                                    · rw [if_pos c36] at H
                                      have c36b0 : ((x1_6.extract ((ji30) : Int).toNat x1_6.size).toList == (x2_6.extract 0 ((ji33) : Int).toNat).toList) = true := beq_iff_eq.mpr c36
                                      have c36b1 : ((x1_6.extract ((ji30) : Int).toNat x1_6.size).toList != (x2_6.extract 0 ((ji33) : Int).toNat).toList) = false := bne_eq_false_iff_eq.mpr c36
                                      clear c36
                                      have H' := Aside0.mk H
                                      clear H
                                      go_wp2_with (first | (go_at_call 15; (with_reducible refine (diffmatchpatch_zzIndex.calls k3 x2_6 (x1_6.extract ((ji24) : Int).toNat x1_6.size) t102 _ A27.out).mono ?_); rintro e w' ⟨rfl, ⟨nd, rfl⟩⟩; (try first | exact ⟨rfl, _, World.drewN_drewN _ _ _⟩ | exact ⟨rfl, _, Eq.trans (World.drewN_drewN _ _ _) (congrArg (World.drewN _) (Nat.add_assoc _ _ _))⟩)))
                                      repeat (go_quiet (first | (go_at_call 15; (with_reducible refine (diffmatchpatch_zzIndex.calls k3 x2_6 (x1_6.extract ((ji24) : Int).toNat x1_6.size) t102 _ A27.out).mono ?_); rintro e w' ⟨rfl, ⟨nd, rfl⟩⟩; (try first | exact ⟨rfl, _, World.drewN_drewN _ _ _⟩ | exact ⟨rfl, _, Eq.trans (World.drewN_drewN _ _ _) (congrArg (World.drewN _) (Nat.add_assoc _ _ _))⟩))); try go_wp2_with (first | (go_at_call 15; (with_reducible refine (diffmatchpatch_zzIndex.calls k3 x2_6 (x1_6.extract ((ji24) : Int).toNat x1_6.size) t102 _ A27.out).mono ?_); rintro e w' ⟨rfl, ⟨nd, rfl⟩⟩; (try first | exact ⟨rfl, _, World.drewN_drewN _ _ _⟩ | exact ⟨rfl, _, Eq.trans (World.drewN_drewN _ _ _) (congrArg (World.drewN _) (Nat.add_assoc _ _ _))⟩))))
                                      go_roundg k3
                                      case measure => have := HJ3.out; have := HJ6.out; have := HK3.out; omega
                                      case rel => exact ⟨(ji33), (wrap64 ((ji33) + 1)), (by first | rfl | (simp; done) | (simp only [← hji33] <;> (first | rfl | simp)) | (simp [*]; done)), (by first | rfl | (simp; done) | (simp only [← hji33] <;> (first | rfl | simp)) | (simp [*]; done)), H', ⟨by have := HJ3.out; have := HJ6.out; have := HK3.out; omega⟩, by repeat (first | exact Drawn0.refl _ | apply Drawn0.step)⟩
                                    · rw [if_neg c36] at H
                                      have c36b0 : ((x1_6.extract ((ji30) : Int).toNat x1_6.size).toList == (x2_6.extract 0 ((ji33) : Int).toNat).toList) = false := beq_eq_false_iff_ne.mpr c36
                                      have c36b1 : ((x1_6.extract ((ji30) : Int).toNat x1_6.size).toList != (x2_6.extract 0 ((ji33) : Int).toNat).toList) = true := bne_iff_ne.mpr c36
                                      have H' := Aside0.mk H
                                      clear H
                                      go_wp2_with (first | (go_at_call 15; (with_reducible refine (diffmatchpatch_zzIndex.calls k3 x2_6 (x1_6.extract ((ji24) : Int).toNat x1_6.size) t102 _ A27.out).mono ?_); rintro e w' ⟨rfl, ⟨nd, rfl⟩⟩; (try first | exact ⟨rfl, _, World.drewN_drewN _ _ _⟩ | exact ⟨rfl, _, Eq.trans (World.drewN_drewN _ _ _) (congrArg (World.drewN _) (Nat.add_assoc _ _ _))⟩)))
                                      repeat (go_quiet (first | (go_at_call 15; (with_reducible refine (diffmatchpatch_zzIndex.calls k3 x2_6 (x1_6.extract ((ji24) : Int).toNat x1_6.size) t102 _ A27.out).mono ?_); rintro e w' ⟨rfl, ⟨nd, rfl⟩⟩; (try first | exact ⟨rfl, _, World.drewN_drewN _ _ _⟩ | exact ⟨rfl, _, Eq.trans (World.drewN_drewN _ _ _) (congrArg (World.drewN _) (Nat.add_assoc _ _ _))⟩))); try go_wp2_with (first | (go_at_call 15; (with_reducible refine (diffmatchpatch_zzIndex.calls k3 x2_6 (x1_6.extract ((ji24) : Int).toNat x1_6.size) t102 _ A27.out).mono ?_); rintro e w' ⟨rfl, ⟨nd, rfl⟩⟩; (try first | exact ⟨rfl, _, World.drewN_drewN _ _ _⟩ | exact ⟨rfl, _, Eq.trans (World.drewN_drewN _ _ _) (congrArg (World.drewN _) (Nat.add_assoc _ _ _))⟩))))
                                      go_roundg k3
                                      case measure => have := HJ3.out; have := HJ6.out; have := HK3.out; omega
                                      case rel => exact ⟨(x10_3), (ji33), (by first | rfl | (simp; done) | (simp [*]; done)), (by first | rfl | (simp; done) | (simp only [← hji33] <;> (first | rfl | simp)) | (simp [*]; done)), H', ⟨by have := HJ3.out; have := HJ6.out; have := HK3.out; omega⟩, by repeat (first | exact Drawn0.refl _ | apply Drawn0.step)⟩
                                  · rw [if_neg c35] at H
                                    exact absurd H (by simp)
                                · rw [if_neg c34] at H
                                  exact absurd H (by simp)
                              · rw [if_neg c32] at H
                                exact absurd H (by simp)
                            · rw [if_neg c31] at H
                              exact absurd H (by simp)
                      · rw [if_neg c26] at H
                        exact absurd H (by simp)
                    · rw [if_neg c25] at H
                      exact absurd H (by simp)
            · rw [if_neg c16] at H
              exact absurd H (by simp)

/-! ### impl_Overlap: function 8 -/
def impl_Overlap.f (k : Nat) (a0 : ByteArray) (a1 : ByteArray) : Option (Int) := (impl_plain.f).bind fun _ => ((diffmatchpatch_DiffMatchPatch_DiffCommonOverlap.f k a0 a1).bind fun t104 => (some t104))
theorem impl_Overlap.mono : ∀ a0 a1 k, LeO (impl_Overlap.f k a0 a1) (impl_Overlap.f (k + 1) a0 a1) := by
  intro a0 a1 k
  unfold impl_Overlap.f
  repeat' first
      | (with_reducible exact diffmatchpatch_DiffMatchPatch_DiffCommonOverlap.mono _ _ _)
      | (with_reducible exact LeO.refl _)
      | (with_reducible exact LeO.none _)
      | (with_reducible refine LeO.ite ?_ ?_)
      | (with_reducible refine LeO.bind ?_ (fun _ => ?_))
      | exact diffmatchpatch_DiffMatchPatch_DiffCommonOverlap.mono _ _ _
      | exact LeO.none _
      | refine LeO.ite ?_ ?_
      | refine LeO.bind ?_ (fun _ => ?_)
set_option maxHeartbeats 8000000 in
set_option maxRecDepth 100000 in
theorem impl_Overlap.calls (k : Nat) (a0 : ByteArray) (a1 : ByteArray) (r : Int) (w : World) (h : impl_Overlap.f k a0 a1 = some r) :
    Calls Try.prog 8 #[.string a0, .string a1] w fun e w' => e = .returned (.int .i64 r) ∧ Below w.heap.size w w' := by
  have HB := Aside0.mk (Below.refl w.heap.size w)
  have H : ((impl_plain.f).bind fun _ => ((diffmatchpatch_DiffMatchPatch_DiffCommonOverlap.f k a0 a1).bind fun t104 => (some t104))) = some r := h
  clear h
  replace H := Option.bind_eq_some_iff.mp H
  obtain ⟨_, A30, H⟩ := H
  replace H : ((diffmatchpatch_DiffMatchPatch_DiffCommonOverlap.f k a0 a1).bind fun t104 => (some t104)) = some r := H
  have A3 := Aside0.mk A30
  clear A30
  replace H := Option.bind_eq_some_iff.mp H
  obtain ⟨t104, A40, H⟩ := H
  replace H : (some t104) = some r := H
  have A4 := Aside0.mk A40
  clear A40
  obtain rfl := Option.some.inj H
  go_enter Try.func8, Try.ntmps8
  go_wp2_with (first | ((with_reducible refine gate_callee (f := 10) rfl ?_); refine goesL_ (some 5) rfl rfl Try.func10 (by kernel_rfl) rfl #[] rfl (by (try simp only [List.map_toArray, List.map_cons, List.map_nil]); first | done | rfl | (simp only [List.length_drop, List.length_take]; rfl)) ?_; (with_reducible refine (impl_plain.calls   _ A3.out).mono ?_); rintro e w5 ⟨v103, rfl, hb⟩; refine ⟨_, rfl, ?_⟩; have n0_ := Aside0.mk (below_step (by repeat (first | (with_reducible first | exact HB.out | apply below_alloc | apply pw_below_drewN | apply below_drew1) | exact HB.out)) hb); clear HB; have HB := n0_; clear n0_; (try clear hb); (try clear hb2); (try clear hk); (try clear hi)) | ((with_reducible refine gate_callee (f := 12) rfl ?_); refine goesL_ (some 8) rfl rfl Try.func12 (by kernel_rfl) rfl #[v103, .string a0, .string a1] rfl (by (try simp only [List.map_toArray, List.map_cons, List.map_nil]); first | done | rfl | (simp only [List.length_drop, List.length_take]; rfl)) ?_; (with_reducible refine (diffmatchpatch_DiffMatchPatch_DiffCommonOverlap.calls k v103 a0 a1 t104 _ A4.out).mono ?_); rintro e w' ⟨rfl, ⟨nd, rfl⟩⟩; refine ⟨_, rfl, ?_⟩))
  go_ret
  exact ⟨by first | rfl | (simp [errW_none, errW_some] <;> rfl) | (simp [*, errW_none, errW_some] <;> rfl), by repeat (first | (with_reducible first | exact HB.out | apply below_alloc | apply pw_below_drewN | apply below_drew1) | exact HB.out)⟩

/-! ### spec_DiffOverlap: function 9 -/
def spec_DiffOverlap.l0 : Nat → ByteArray → ByteArray → Int → Option (Int)
  | 0, _, _, _ => none
  | k + 1, x0, x1, x5 => if x5 > 0 then (if 0 ≤ (wrap64 ((x0.size : Int) - x5)) then (if (wrap64 ((x0.size : Int) - x5)) ≤ (x0.size : Int) then (if 0 ≤ x5 then (if x5 ≤ (x1.size : Int) then (if (x0.extract ((wrap64 ((x0.size : Int) - x5)) : Int).toNat x0.size).toList = (x1.extract 0 (x5 : Int).toNat).toList then (some x5) else (spec_DiffOverlap.l0 k x0 x1 (wrap64 (x5 - 1)))) else (none)) else (none)) else (none)) else (none)) else (some 0)
def spec_DiffOverlap.f (k : Nat) (a0 : ByteArray) (a1 : ByteArray) : Option (Int) := spec_DiffOverlap.l0 k a0 a1 (mn (a0.size : Int) (a1.size : Int))
theorem spec_DiffOverlap.mono_l : ∀ k, (∀ y0 y1 y2, LeO (spec_DiffOverlap.l0 k y0 y1 y2) (spec_DiffOverlap.l0 (k + 1) y0 y1 y2))
  | 0 => fun _ _ _ r h => by simp [spec_DiffOverlap.l0] at h
  | k + 1 => by
    have ih0 := spec_DiffOverlap.mono_l k
    · intro y0 y1 y2
      unfold spec_DiffOverlap.l0
      repeat' first
      | (with_reducible exact ih0 _ _ _)
      | (with_reducible exact LeO.refl _)
      | (with_reducible exact LeO.none _)
      | (with_reducible refine LeO.ite ?_ ?_)
      | (with_reducible refine LeO.bind ?_ (fun _ => ?_))
      | exact ih0 _ _ _
      | exact LeO.none _
      | refine LeO.ite ?_ ?_
      | refine LeO.bind ?_ (fun _ => ?_)
theorem spec_DiffOverlap.mono : ∀ a0 a1 k, LeO (spec_DiffOverlap.f k a0 a1) (spec_DiffOverlap.f (k + 1) a0 a1) := by
  intro a0 a1 k
  have ih0 := spec_DiffOverlap.mono_l k
  unfold spec_DiffOverlap.f
  repeat' first
      | (with_reducible exact ih0 _ _ _)
      | (with_reducible exact LeO.refl _)
      | (with_reducible exact LeO.none _)
      | (with_reducible refine LeO.ite ?_ ?_)
      | (with_reducible refine LeO.bind ?_ (fun _ => ?_))
      | exact ih0 _ _ _
      | exact LeO.none _
      | refine LeO.ite ?_ ?_
      | refine LeO.bind ?_ (fun _ => ?_)
set_option maxHeartbeats 8000000 in
set_option maxRecDepth 100000 in
theorem spec_DiffOverlap.calls (k : Nat) (a0 : ByteArray) (a1 : ByteArray) (r : Int) (w : World) (h : spec_DiffOverlap.f k a0 a1 = some r) :
    Calls Try.prog 9 #[.string a0, .string a1] w fun e w' => e = .returned (.int .i64 r) ∧ Below w.heap.size w w' := by
  have HB := Aside0.mk (Below.refl w.heap.size w)
  have H : (spec_DiffOverlap.l0 k a0 a1 (mn (a0.size : Int) (a1.size : Int))) = some r := h
  clear h
  obtain ⟨ji3, hji3⟩ : ∃ j_ : Int, (mn (a0.size : Int) (a1.size : Int)) = j_ := ⟨_, rfl⟩
  replace H : (spec_DiffOverlap.l0 k a0 a1 ji3) = some r := by first | (rw [hji3] at H; exact H) | (simp only [hji3] at H ⊢; exact H)
  (try (have hji3l : 0 ≤ ji3 := by (rw [← hji3]; unfold mn; (repeat' split) <;> omega)))
  (try (have hji3m : 0 ≤ ji3 := by omega))
  have hji3_ : (if (a1.size : Int) < (a0.size : Int) then (a1.size : Int) else (a0.size : Int)) = ji3 := hji3
  (try (have hji3n := hji3_; simp only [Int.ofNat_lt] at hji3n))
  have H' := Aside0.mk H
  clear H
  go_enter Try.func9, Try.ntmps9
  go_wp2
  repeat (go_quiet (fail); try go_wp2)
  go_loopg [5] k (fun kq v5 w' => ∃ (x5_1 : Int), v5 = .int .i64 x5_1 ∧ Aside0 (spec_DiffOverlap.l0 kq a0 a1 x5_1 = some r) ∧ Aside0 (kq ≤ k) ∧ Aside0 (Below w.heap.size w w'))
  case atStart => exact ⟨(ji3), (by first | rfl | (simp; done) | (simp only [← hji3] <;> (first | rfl | simp)) | (simp [*]; done)), H', ⟨Nat.le_refl _⟩, ⟨by repeat (first | (with_reducible first | exact HB.out | apply below_alloc | apply pw_below_drewN | apply below_drew1) | exact HB.out)⟩⟩
  case round =>
    clear H'
    try clear p2
    obtain ⟨x5_1, rfl, HA, HK1, HB⟩ := hrel
    cases gk with
    | zero => exact absurd HA.out (by simp [spec_DiffOverlap.l0])
    | succ k1 =>
      have H := HA.out
      clear HA
      simp only [spec_DiffOverlap.l0] at H
      by_cases c4 : x5_1 > 0
      · rw [if_pos c4] at H
        have c4b0 : decide (0 < x5_1) = true := decide_eq_true c4
        clear c4
        obtain ⟨ji5, hji5⟩ : ∃ j_ : Int, (wrap64 ((a0.size : Int) - x5_1)) = j_ := ⟨_, rfl⟩
        replace H : (if 0 ≤ (ji5) then (if (ji5) ≤ (a0.size : Int) then (if 0 ≤ x5_1 then (if x5_1 ≤ (a1.size : Int) then (if (a0.extract ((ji5) : Int).toNat a0.size).toList = (a1.extract 0 (x5_1 : Int).toNat).toList then (some x5_1) else (spec_DiffOverlap.l0 k1 a0 a1 (wrap64 (x5_1 - 1)))) else (none)) else (none)) else (none)) else (none)) = some r := by first | (rw [hji5] at H; exact H) | (simp only [hji5] at H ⊢; exact H)
        have hji5w : (IntKind.i64.wrap ((a0.size : Int) - x5_1)) = ji5 := (i64_w _).trans hji5
        by_cases c6 : 0 ≤ (ji5)
        · rw [if_pos c6] at H
          have c6b0 := eq_true c6
          have c6b1 : decide (0 ≤ (ji5)) = true := decide_eq_true c6
          clear c6
          by_cases c7 : (ji5) ≤ (a0.size : Int)
          · rw [if_pos c7] at H
            have c7b0 := eq_true c7
            have c7b1 : decide ((ji5) ≤ (a0.size : Int)) = true := decide_eq_true c7
            clear c7
            by_cases c8 : 0 ≤ x5_1
            · rw [if_pos c8] at H
              have c8b0 := eq_true c8
              have c8b1 : decide (0 ≤ x5_1) = true := decide_eq_true c8
              clear c8
              by_cases c9 : x5_1 ≤ (a1.size : Int)
              · rw [if_pos c9] at H
                have c9b0 := eq_true c9
                have c9b1 : decide (x5_1 ≤ (a1.size : Int)) = true := decide_eq_true c9
                clear c9
                by_cases c10 : (a0.extract ((ji5) : Int).toNat a0.size).toList = (a1.extract 0 (x5_1 : Int).toNat).toList
                · rw [if_pos c10] at H
                  have c10b0 : ((a0.extract ((ji5) : Int).toNat a0.size).toList == (a1.extract 0 (x5_1 : Int).toNat).toList) = true := beq_iff_eq.mpr c10
                  have c10b1 : ((a0.extract ((ji5) : Int).toNat a0.size).toList != (a1.extract 0 (x5_1 : Int).toNat).toList) = false := bne_eq_false_iff_eq.mpr c10
                  clear c10
                  obtain rfl := Option.some.inj H
                  go_wp2
                  repeat (go_quiet (fail); try go_wp2)
                  go_ret
                  exact ⟨by first | rfl | (simp [errW_none, errW_some] <;> rfl) | (simp only [← hji3, ← hji5]; first | rfl | (simp [errW_none, errW_some] <;> rfl)) | (simp [*, errW_none, errW_some] <;> rfl), by repeat (first | (with_reducible first | exact HB.out | apply below_alloc | apply pw_below_drewN | apply below_drew1) | exact HB.out)⟩
                · rw [if_neg c10] at H
                  have c10b0 : ((a0.extract ((ji5) : Int).toNat a0.size).toList == (a1.extract 0 (x5_1 : Int).toNat).toList) = false := beq_eq_false_iff_ne.mpr c10
                  have c10b1 : ((a0.extract ((ji5) : Int).toNat a0.size).toList != (a1.extract 0 (x5_1 : Int).toNat).toList) = true := bne_iff_ne.mpr c10
                  have H' := Aside0.mk H
                  clear H
                  go_wp2
                  repeat (go_quiet (fail); try go_wp2)
                  go_roundg k1
                  case measure => have := HK1.out; omega
                  case rel => exact ⟨(wrap64 (x5_1 - 1)), (by first | rfl | (simp; done) | (simp [*]; done)), H', ⟨by have := HK1.out; omega⟩, ⟨by repeat (first | (with_reducible first | exact HB.out | apply below_alloc | apply pw_below_drewN | apply below_drew1) | exact HB.out)⟩⟩
              · rw [if_neg c9] at H
                exact absurd H (by simp)
            · rw [if_neg c8] at H
              exact absurd H (by simp)
          · rw [if_neg c7] at H
            exact absurd H (by simp)
        · rw [if_neg c6] at H
          exact absurd H (by simp)
      · rw [if_neg c4] at H
        have c4b0 : decide (0 < x5_1) = false := decide_eq_false c4
        clear c4
        obtain rfl := Option.some.inj H
        go_wp2
        repeat (go_quiet (fail); try go_wp2)
        go_ret
        exact ⟨by first | rfl | (simp [errW_none, errW_some] <;> rfl) | (simp only [← hji3]; first | rfl | (simp [errW_none, errW_some] <;> rfl)) | (simp [*, errW_none, errW_some] <;> rfl), by repeat (first | (with_reducible first | exact HB.out | apply below_alloc | apply pw_below_drewN | apply below_drew1) | exact HB.out)⟩

end Go.Proofs.Ytmdgnglgabnhnaa.P
