-- Written by a program of this session (wip/tools): the printer's text for functions of the seat YtmdgnglgabnhnaaDoor. Not trusted: Lean checks it.
import Derived.Test.YtmdgnglgabnhnaaDoorPx0
import Derived.Test.YtmdgnglgabnhnaaDoorXPlain
import Derived.Test.YtmdgnglgabnhnaaDoorXUtf
namespace Go.Proofs.YtmdgnglgabnhnaaDoor.P
open Go.RowKit Go.Proofs.YtmdgnglgabnhnaaDoorW.PrintWords Go.Proofs.YtmdgnglgabnhnaaDoorW.PrintLast Go.Proofs.YtmdgnglgabnhnaaDoorW.PrintMore
attribute [local go_sem] max2_int min2_int max_two min_two max_three min_three max_four min_four   -- for this text's walks alone
open Go.Proofs.YtmdgnglgabnhnaaDoorX
set_option linter.unusedVariables false
set_option linter.unusedSimpArgs false

/-! ### spec_IsDiffText: function 11 -/
def spec_IsDiffText.f (a0 : ByteArray) (a1 : Int) : Option (Bool) := if (a0.size : Int) ≤ (wrap64 (4 * a1)) then ((utf8_ValidString.f a0).bind fun t101 => (if t101 = true then ((utf8_RuneCountInString.f a0).bind fun t102 => (some (decide (t102 ≤ a1)))) else (some false))) else (some false)
set_option maxHeartbeats 8000000 in
set_option maxRecDepth 100000 in
theorem spec_IsDiffText.calls (a0 : ByteArray) (a1 : Int) (r : Bool) (w : World) (hG_ : Glob w) (h : spec_IsDiffText.f a0 a1 = some r) :
    Calls Tryd.prog 11 #[.string a0, .int .i64 a1] w fun e w' => e = .returned (.bool r) ∧ Below w.heap.size w w' := by
  have HB := Aside0.mk (Below.refl w.heap.size w)
  have H : (if (a0.size : Int) ≤ (wrap64 (4 * a1)) then ((utf8_ValidString.f a0).bind fun t101 => (if t101 = true then ((utf8_RuneCountInString.f a0).bind fun t102 => (some (decide (t102 ≤ a1)))) else (some false))) else (some false)) = some r := h
  clear h
  by_cases c3 : (a0.size : Int) ≤ (wrap64 (4 * a1))
  · rw [if_pos c3] at H
    have c3b0 : decide ((a0.size : Int) ≤ (wrap64 (4 * a1))) = true := decide_eq_true c3
    clear c3
    replace H := Option.bind_eq_some_iff.mp H
    obtain ⟨t101, A40, H⟩ := H
    replace H : (if t101 = true then ((utf8_RuneCountInString.f a0).bind fun t102 => (some (decide (t102 ≤ a1)))) else (some false)) = some r := H
    have A4 := Aside0.mk A40
    clear A40
    by_cases c5 : t101 = true
    · subst c5
      have H1 : ((utf8_RuneCountInString.f a0).bind fun t102 => (some (decide (t102 ≤ a1)))) = some r := by rw [if_pos rfl] at H; exact H
      clear H
      have H := H1
      clear H1
      replace H := Option.bind_eq_some_iff.mp H
      obtain ⟨t102, A60, H⟩ := H
      replace H : (some (decide (t102 ≤ a1))) = some r := H
      have A6 := Aside0.mk A60
      clear A60
      obtain rfl := Option.some.inj H
      go_enter Tryd.func11, Tryd.ntmps11
      go_wp2_with (first | (go_at_call 34; (with_reducible refine (utf8_ValidString.calls a0 true _ ?side1 A4.out).mono ?_); (case side1 => exact Glob.below hG_ (by repeat (first | (with_reducible first | exact HB.out | apply below_alloc | apply pw_below_drewN | apply below_drew1) | exact HB.out))); rintro e w7 ⟨rfl, hb⟩; have n0_ := Aside0.mk (below_step (by repeat (first | (with_reducible first | exact HB.out | apply below_alloc | apply pw_below_drewN | apply below_drew1) | exact HB.out)) hb); clear HB; have HB := n0_; clear n0_; (try clear hb); (try clear hb2); (try clear hk); (try clear hi)) | (go_at_call 30; (with_reducible refine (utf8_RuneCountInString.calls a0 t102 _ A6.out).mono ?_); rintro e w8 ⟨rfl, hb⟩; have n0_ := Aside0.mk (below_step (by repeat (first | (with_reducible first | exact HB.out | apply below_alloc | apply pw_below_drewN | apply below_drew1) | exact HB.out)) hb); clear HB; have HB := n0_; clear n0_; (try clear hb); (try clear hb2); (try clear hk); (try clear hi)))
      go_ret
      exact ⟨by first | rfl | (simp [errW_none, errW_some] <;> rfl) | (simp [*, errW_none, errW_some] <;> rfl), by repeat (first | (with_reducible first | exact HB.out | apply below_alloc | apply pw_below_drewN | apply below_drew1) | exact HB.out)⟩
    · replace c5 := Bool.eq_false_iff.mpr c5
      subst c5
      have H1 : (some false) = some r := by rw [if_neg (show ¬ (false = true) by decide)] at H; exact H
      clear H
      have H := H1
      clear H1
      obtain rfl := Option.some.inj H
      go_enter Tryd.func11, Tryd.ntmps11
      go_wp2_with (first | (go_at_call 34; (with_reducible refine (utf8_ValidString.calls a0 false _ ?side1 A4.out).mono ?_); (case side1 => exact Glob.below hG_ (by repeat (first | (with_reducible first | exact HB.out | apply below_alloc | apply pw_below_drewN | apply below_drew1) | exact HB.out))); rintro e w9 ⟨rfl, hb⟩; have n0_ := Aside0.mk (below_step (by repeat (first | (with_reducible first | exact HB.out | apply below_alloc | apply pw_below_drewN | apply below_drew1) | exact HB.out)) hb); clear HB; have HB := n0_; clear n0_; (try clear hb); (try clear hb2); (try clear hk); (try clear hi)))
      go_ret
      exact ⟨by first | rfl | (simp [errW_none, errW_some] <;> rfl) | (simp [*, errW_none, errW_some] <;> rfl), by repeat (first | (with_reducible first | exact HB.out | apply below_alloc | apply pw_below_drewN | apply below_drew1) | exact HB.out)⟩
  · rw [if_neg c3] at H
    have c3b0 : decide ((a0.size : Int) ≤ (wrap64 (4 * a1))) = false := decide_eq_false c3
    clear c3
    obtain rfl := Option.some.inj H
    go_enter Tryd.func11, Tryd.ntmps11
    go_wp2
    go_ret
    exact ⟨by first | rfl | (simp [errW_none, errW_some] <;> rfl) | (simp [*, errW_none, errW_some] <;> rfl), by repeat (first | (with_reducible first | exact HB.out | apply below_alloc | apply pw_below_drewN | apply below_drew1) | exact HB.out)⟩

/-! ### diffmatchpatch_commonPrefixLength: function 53 -/
mutual
def diffmatchpatch_commonPrefixLength.l0 : Nat → List Int → List Int → Int → Option (Int)
  | 0, _, _, _ => none
  | k + 1, x0, x1, x5 => if x5 < (x0.length : Int) then (diffmatchpatch_commonPrefixLength.j1 k x0 x1 x5 (decide (x5 < (x1.length : Int)))) else (diffmatchpatch_commonPrefixLength.j1 k x0 x1 x5 false)
def diffmatchpatch_commonPrefixLength.j1 : Nat → List Int → List Int → Int → Bool → Option (Int)
  | 0, _, _, _, _ => none
  | k + 1, x0, x1, x5, x15 => if x15 = true then (if 0 ≤ x5 then (if x5 < (x0.length : Int) then (if x5 < (x1.length : Int) then (if (rd x0 x5) = (rd x1 x5) then (diffmatchpatch_commonPrefixLength.l0 k x0 x1 (wrap64 (x5 + 1))) else (some x5)) else (none)) else (none)) else (none)) else (some x5)
end
def diffmatchpatch_commonPrefixLength.f (k : Nat) (l0 : List Int) (l1 : List Int) : Option (Int) := diffmatchpatch_commonPrefixLength.l0 k l0 l1 0
theorem diffmatchpatch_commonPrefixLength.mono_l : ∀ k, (∀ y0 y1 y2, LeO (diffmatchpatch_commonPrefixLength.l0 k y0 y1 y2) (diffmatchpatch_commonPrefixLength.l0 (k + 1) y0 y1 y2)) ∧ (∀ y0 y1 y2 y3, LeO (diffmatchpatch_commonPrefixLength.j1 k y0 y1 y2 y3) (diffmatchpatch_commonPrefixLength.j1 (k + 1) y0 y1 y2 y3))
  | 0 => ⟨fun _ _ _ r h => by simp [diffmatchpatch_commonPrefixLength.l0] at h, fun _ _ _ _ r h => by simp [diffmatchpatch_commonPrefixLength.j1] at h⟩
  | k + 1 => by
    obtain ⟨ih0, ih1⟩ := diffmatchpatch_commonPrefixLength.mono_l k
    refine ⟨?_, ?_⟩
    · intro y0 y1 y2
      unfold diffmatchpatch_commonPrefixLength.l0
      repeat' first
      | (with_reducible exact ih0 _ _ _)
      | (with_reducible exact ih1 _ _ _ _)
      | (with_reducible exact LeO.refl _)
      | (with_reducible exact LeO.none _)
      | (with_reducible refine LeO.ite ?_ ?_)
      | (with_reducible refine LeO.bind ?_ (fun _ => ?_))
      | exact ih0 _ _ _
      | exact ih1 _ _ _ _
      | exact LeO.none _
      | refine LeO.ite ?_ ?_
      | refine LeO.bind ?_ (fun _ => ?_)
    · intro y0 y1 y2 y3
      unfold diffmatchpatch_commonPrefixLength.j1
      repeat' first
      | (with_reducible exact ih0 _ _ _)
      | (with_reducible exact ih1 _ _ _ _)
      | (with_reducible exact LeO.refl _)
      | (with_reducible exact LeO.none _)
      | (with_reducible refine LeO.ite ?_ ?_)
      | (with_reducible refine LeO.bind ?_ (fun _ => ?_))
      | exact ih0 _ _ _
      | exact ih1 _ _ _ _
      | exact LeO.none _
      | refine LeO.ite ?_ ?_
      | refine LeO.bind ?_ (fun _ => ?_)
theorem diffmatchpatch_commonPrefixLength.mono : ∀ a0 a1 k, LeO (diffmatchpatch_commonPrefixLength.f k a0 a1) (diffmatchpatch_commonPrefixLength.f (k + 1) a0 a1) := by
  intro a0 a1 k
  obtain ⟨ih0, ih1⟩ := diffmatchpatch_commonPrefixLength.mono_l k
  unfold diffmatchpatch_commonPrefixLength.f
  repeat' first
      | (with_reducible exact ih0 _ _ _)
      | (with_reducible exact ih1 _ _ _ _)
      | (with_reducible exact LeO.refl _)
      | (with_reducible exact LeO.none _)
      | (with_reducible refine LeO.ite ?_ ?_)
      | (with_reducible refine LeO.bind ?_ (fun _ => ?_))
      | exact ih0 _ _ _
      | exact ih1 _ _ _ _
      | exact LeO.none _
      | refine LeO.ite ?_ ?_
      | refine LeO.bind ?_ (fun _ => ?_)
set_option maxHeartbeats 8000000 in
set_option maxRecDepth 100000 in
theorem diffmatchpatch_commonPrefixLength.calls (k : Nat) (A0 : Option Addr) (c0 : Nat) (l0 : List Int) (A1 : Option Addr) (c1 : Nat) (l1 : List Int) (r : Int) (w : World) (hr0 : Kd.C (Kd.int .i32) w A0 l0.length l0) (hc0 : l0.length ≤ c0) (hr1 : Kd.C (Kd.int .i32) w A1 l1.length l1) (hc1 : l1.length ≤ c1) (h : diffmatchpatch_commonPrefixLength.f k l0 l1 = some r) :
    Calls Tryd.prog 53 #[.slice A0 l0.length c0, .slice A1 l1.length c1] w fun e w' => e = .returned (.int .i64 r) ∧ Drawn0 w w' := by
  have HR0 := Aside0.mk hr0
  have HC0 := Aside0.mk hc0
  clear hr0 hc0
  have HR1 := Aside0.mk hr1
  have HC1 := Aside0.mk hc1
  clear hr1 hc1
  have H : (diffmatchpatch_commonPrefixLength.l0 k l0 l1 0) = some r := h
  clear h
  have H' := Aside0.mk H
  clear H
  go_enter Tryd.func53, Tryd.ntmps53
  go_wp2
  repeat (go_quiet (fail); try go_wp2)
  go_loopg [5] k (fun kq v5 w' => ∃ (x5_1 : Int), v5 = .int .i64 x5_1 ∧ Aside0 (diffmatchpatch_commonPrefixLength.l0 kq l0 l1 x5_1 = some r) ∧ Aside0 (kq ≤ k) ∧ Drawn0 w w')
  case atStart => exact ⟨(0), (by first | rfl | (simp; done) | (simp [*]; done)), H', ⟨Nat.le_refl _⟩, by repeat (first | exact Drawn0.refl _ | apply Drawn0.step)⟩
  case round =>
    clear H'
    try clear c1
    try clear p2
    obtain ⟨x5_1, rfl, HA, HK1, ⟨m1, rfl⟩⟩ := hrel
    cases gk with
    | zero => exact absurd HA.out (by simp [diffmatchpatch_commonPrefixLength.l0])
    | succ k1 =>
      have H := HA.out
      clear HA
      simp only [diffmatchpatch_commonPrefixLength.l0] at H
      have HC3 := Aside0.mk H
      clear H
      go_upto_region 2 with (fail)
      repeat (go_quiet (fail); go_upto_region 2 with (fail))
      go_cut [15] (fun v15 wc => ∃ (kq : Nat) (x15_2 : Bool), v15 = .bool x15_2 ∧ Aside0 (diffmatchpatch_commonPrefixLength.j1 kq l0 l1 x5_1 x15_2 = some r) ∧ Aside0 (kq ≤ k1) ∧ Drawn0 w wc)
      case first =>
        have H := HC3.out
        clear HC3
        by_cases c4 : x5_1 < (l0.length : Int)
        · rw [if_pos c4] at H
          have c4b0 : decide (x5_1 < (l0.length : Int)) = true := decide_eq_true c4
          clear c4
          (first | rw [c4b0] | (simp only [i64_w, i32_w]; rw [c4b0]) | skip)
          have H' := Aside0.mk H
          clear H
          go_wp2
          repeat (go_quiet (fail); try go_wp2)
          go_meet
          case rel => exact ⟨_, (decide (x5_1 < (l1.length : Int))), (by first | rfl | (simp; done) | (simp [*]; done)), H', ⟨by have := HK1.out; first | omega | exact Nat.le_refl _⟩, by repeat (first | exact Drawn0.refl _ | apply Drawn0.step)⟩
        · rw [if_neg c4] at H
          have c4b0 : decide (x5_1 < (l0.length : Int)) = false := decide_eq_false c4
          clear c4
          (first | rw [c4b0] | (simp only [i64_w, i32_w]; rw [c4b0]) | skip)
          have H' := Aside0.mk H
          clear H
          go_wp2
          repeat (go_quiet (fail); try go_wp2)
          go_meet
          case rel => exact ⟨_, (false), (by first | rfl | (simp; done) | (simp [*]; done)), H', ⟨by have := HK1.out; first | omega | exact Nat.le_refl _⟩, by repeat (first | exact Drawn0.refl _ | apply Drawn0.step)⟩
      case rest =>
        clear HC3
        try clear c1
        try clear p2
        try clear c4
        try clear c4b0
        try clear p2
        obtain ⟨kq, x15_2, rfl, HA, HJ2, ⟨mc2, rfl⟩⟩ := hcut
        cases kq with
        | zero => exact absurd HA.out (by simp [diffmatchpatch_commonPrefixLength.j1])
        | succ kj2 =>
          have H := HA.out
          clear HA
          simp only [diffmatchpatch_commonPrefixLength.j1] at H
          by_cases c5 : x15_2 = true
          · subst c5
            have H1 : (if 0 ≤ x5_1 then (if x5_1 < (l0.length : Int) then (if x5_1 < (l1.length : Int) then (if (rd l0 x5_1) = (rd l1 x5_1) then (diffmatchpatch_commonPrefixLength.l0 kj2 l0 l1 (wrap64 (x5_1 + 1))) else (some x5_1)) else (none)) else (none)) else (none)) = some r := by rw [if_pos rfl] at H; exact H
            clear H
            have H := H1
            clear H1
            by_cases c6 : 0 ≤ x5_1
            · rw [if_pos c6] at H
              have c6b0 : decide (0 ≤ x5_1) = true := decide_eq_true c6
              clear c6
              by_cases c7 : x5_1 < (l0.length : Int)
              · rw [if_pos c7] at H
                have c7b0 : decide (x5_1 < (l0.length : Int)) = true := decide_eq_true c7
                clear c7
                by_cases c8 : x5_1 < (l1.length : Int)
                · rw [if_pos c8] at H
                  have c8b0 : decide (x5_1 < (l1.length : Int)) = true := decide_eq_true c8
                  clear c8
                  by_cases c9 : (rd l0 x5_1) = (rd l1 x5_1)
                  · rw [if_pos c9] at H
                    have c9b0 : ((rd l0 x5_1) == (rd l1 x5_1)) = true := beq_iff_eq.mpr c9
                    have c9b1 : ((rd l0 x5_1) != (rd l1 x5_1)) = false := bne_eq_false_iff_eq.mpr c9
                    clear c9
                    have H' := Aside0.mk H
                    clear H
                    have p103 : 0 ≤ (x5_1 : Int) := of_decide_eq_true (by first | (with_reducible assumption) | assumption)
                    have q103 : x5_1 < (l0.length : Int) := of_decide_eq_true (by first | (with_reducible assumption) | assumption)
                    obtain ⟨ad103, e103, hx103_0⟩ := Kd.at_int HR0.out x5_1 p103 q103
                    cases e103
                    replace p103 := eq_true p103
                    replace q103 := eq_true q103
                    have p104 : 0 ≤ (x5_1 : Int) := of_decide_eq_true (by first | (with_reducible assumption) | assumption)
                    have q104 : x5_1 < (l1.length : Int) := of_decide_eq_true (by first | (with_reducible assumption) | assumption)
                    obtain ⟨ad104, e104, hx104_0⟩ := Kd.at_int HR1.out x5_1 p104 q104
                    cases e104
                    replace p104 := eq_true p104
                    replace q104 := eq_true q104
                    go_wp2
                    repeat (go_quiet (fail); try go_wp2)
                    go_roundg kj2
                    case measure => have := HK1.out; have := HJ2.out; omega
                    case rel => exact ⟨(wrap64 (x5_1 + 1)), (by first | rfl | (simp; done) | (simp [*]; done)), H', ⟨by have := HK1.out; have := HJ2.out; omega⟩, by repeat (first | exact Drawn0.refl _ | apply Drawn0.step)⟩
                  · rw [if_neg c9] at H
                    have c9b0 : ((rd l0 x5_1) == (rd l1 x5_1)) = false := beq_eq_false_iff_ne.mpr c9
                    have c9b1 : ((rd l0 x5_1) != (rd l1 x5_1)) = true := bne_iff_ne.mpr c9
                    obtain rfl := Option.some.inj H
                    have p103 : 0 ≤ (x5_1 : Int) := of_decide_eq_true (by first | (with_reducible assumption) | assumption)
                    have q103 : x5_1 < (l0.length : Int) := of_decide_eq_true (by first | (with_reducible assumption) | assumption)
                    obtain ⟨ad103, e103, hx103_0⟩ := Kd.at_int HR0.out x5_1 p103 q103
                    cases e103
                    replace p103 := eq_true p103
                    replace q103 := eq_true q103
                    have p104 : 0 ≤ (x5_1 : Int) := of_decide_eq_true (by first | (with_reducible assumption) | assumption)
                    have q104 : x5_1 < (l1.length : Int) := of_decide_eq_true (by first | (with_reducible assumption) | assumption)
                    obtain ⟨ad104, e104, hx104_0⟩ := Kd.at_int HR1.out x5_1 p104 q104
                    cases e104
                    replace p104 := eq_true p104
                    replace q104 := eq_true q104
                    go_wp2
                    repeat (go_quiet (fail); try go_wp2)
                    go_ret
                    exact ⟨by first | rfl | (simp; done) | (simp [*]; done), by repeat (first | exact Drawn0.refl _ | apply Drawn0.step)⟩
                · rw [if_neg c8] at H
                  exact absurd H (by simp)
              · rw [if_neg c7] at H
                exact absurd H (by simp)
            · rw [if_neg c6] at H
              exact absurd H (by simp)
          · replace c5 := Bool.eq_false_iff.mpr c5
            subst c5
            have H1 : (some x5_1) = some r := by rw [if_neg (show ¬ (false = true) by decide)] at H; exact H
            clear H
            have H := H1
            clear H1
            obtain rfl := Option.some.inj H
            go_wp2
            repeat (go_quiet (fail); try go_wp2)
            go_ret
            exact ⟨by first | rfl | (simp; done) | (simp [*]; done), by repeat (first | exact Drawn0.refl _ | apply Drawn0.step)⟩

/-! ### diffmatchpatch_DiffMatchPatch_DiffCommonPrefix: function 36 -/
def diffmatchpatch_DiffMatchPatch_DiffCommonPrefix.f (k : Nat)  (a1 : ByteArray) (a2 : ByteArray) : Option (Int) := if (runesI a1).length ≤ 70368744177664 then (if (runesI a2).length ≤ 70368744177664 then ((diffmatchpatch_commonPrefixLength.f k (runesI a1) (runesI a2)).bind fun t111 => (some t111)) else (none)) else (none)
theorem diffmatchpatch_DiffMatchPatch_DiffCommonPrefix.mono : ∀ a0 a1 k, LeO (diffmatchpatch_DiffMatchPatch_DiffCommonPrefix.f k a0 a1) (diffmatchpatch_DiffMatchPatch_DiffCommonPrefix.f (k + 1) a0 a1) := by
  intro a0 a1 k
  unfold diffmatchpatch_DiffMatchPatch_DiffCommonPrefix.f
  repeat' first
      | (with_reducible exact diffmatchpatch_commonPrefixLength.mono _ _ _)
      | (with_reducible exact LeO.refl _)
      | (with_reducible exact LeO.none _)
      | (with_reducible refine LeO.ite ?_ ?_)
      | (with_reducible refine LeO.bind ?_ (fun _ => ?_))
      | exact diffmatchpatch_commonPrefixLength.mono _ _ _
      | exact LeO.none _
      | refine LeO.ite ?_ ?_
      | refine LeO.bind ?_ (fun _ => ?_)
set_option maxHeartbeats 8000000 in
set_option maxRecDepth 100000 in
theorem diffmatchpatch_DiffMatchPatch_DiffCommonPrefix.calls (k : Nat) (p0_ : Value) (a1 : ByteArray) (a2 : ByteArray) (r : Int) (w : World) (h : diffmatchpatch_DiffMatchPatch_DiffCommonPrefix.f k a1 a2 = some r) :
    Calls Tryd.prog 36 #[p0_, .string a1, .string a2] w fun e w' => e = .returned (.int .i64 r) ∧ Below w.heap.size w w' := by
  have HB := Aside0.mk (Below.refl w.heap.size w)
  have H : (if (runesI a1).length ≤ 70368744177664 then (if (runesI a2).length ≤ 70368744177664 then ((diffmatchpatch_commonPrefixLength.f k (runesI a1) (runesI a2)).bind fun t111 => (some t111)) else (none)) else (none)) = some r := h
  clear h
  by_cases c4 : (runesI a1).length ≤ 70368744177664
  · rw [if_pos c4] at H
    have c4b0 := eq_true c4
    have c4b1 : decide ((runesI a1).length ≤ 70368744177664) = true := decide_eq_true c4
    clear c4
    obtain ⟨y105, hy105⟩ : ∃ y_ : List Int, y_ = (runesI a1) := ⟨_, rfl⟩
    replace H : (if (runesI a2).length ≤ 70368744177664 then ((diffmatchpatch_commonPrefixLength.f k y105 (runesI a2)).bind fun t111 => (some t111)) else (none)) = some r := by first | (rw [hy105]; with_reducible exact H) | (have H2_ := (Option.bind_some _ _).symm.trans H; rw [hy105]; with_reducible exact H2_) | (have H2_ := (Option.bind_some _ _).symm.trans H; with_reducible exact H2_) | with_reducible exact H | (rw [hy105]; exact H) | exact H
    have Ny105 := Aside0.mk hy105
    clear hy105
    by_cases c5 : (runesI a2).length ≤ 70368744177664
    · rw [if_pos c5] at H
      have c5b0 := eq_true c5
      have c5b1 : decide ((runesI a2).length ≤ 70368744177664) = true := decide_eq_true c5
      clear c5
      obtain ⟨y108, hy108⟩ : ∃ y_ : List Int, y_ = (runesI a2) := ⟨_, rfl⟩
      replace H : ((diffmatchpatch_commonPrefixLength.f k y105 y108).bind fun t111 => (some t111)) = some r := by first | (rw [hy108]; with_reducible exact H) | (have H2_ := (Option.bind_some _ _).symm.trans H; rw [hy108]; with_reducible exact H2_) | (have H2_ := (Option.bind_some _ _).symm.trans H; with_reducible exact H2_) | with_reducible exact H | (rw [hy108]; exact H) | exact H
      have Ny108 := Aside0.mk hy108
      clear hy108
      replace H := Option.bind_eq_some_iff.mp H
      obtain ⟨t111, A60, H⟩ := H
      replace H : (some t111) = some r := H
      have A6 := Aside0.mk A60
      clear A60
      obtain rfl := Option.some.inj H
      go_enter Tryd.func36, Tryd.ntmps36
      go_wp2_with (first | ((with_reducible refine gate_dst (N := 8) rfl ?_); refine Kd.R_runes _ 21 rfl (N := 8) rfl 9 45 _ rfl a1 rfl Tryd.underlying9 Tryd.underlying45 Tryd.underlying21 info21 (ok := fun _ => True) (okp := fun _ => True) (fun _ hk => hk) trivial (of_decide_eq_true (by first | (with_reducible assumption) | assumption)) (Below.refl _ _) (Nat.le_refl _) ?_; intro v106 w7 ho8 hb hg_ hnew_; clear hg_ hnew_; (first | rw [← Ny105.out] at ho8 | (simp only [Int.reduceToNat] at ho8; rw [← Ny105.out] at ho8)); have n0_ := Aside0.mk (Kd.R_lower ho8 (below_size (by repeat (first | (with_reducible first | exact HB.out | apply below_alloc | apply pw_below_drewN | apply below_drew1) | exact HB.out)))); have n1_ := Aside0.mk (below_step (by repeat (first | (with_reducible first | exact HB.out | apply below_alloc | apply pw_below_drewN | apply below_drew1) | exact HB.out)) hb); clear HB; have HO107 := n0_; have HB := n1_; clear n0_ n1_; clear hb ho8) | ((with_reducible refine gate_dst (N := 10) rfl ?_); refine Kd.R_runes _ 21 rfl (N := 10) rfl 9 45 _ rfl a2 rfl Tryd.underlying9 Tryd.underlying45 Tryd.underlying21 info21 (ok := fun _ => True) (okp := fun _ => True) (fun _ hk => hk) trivial (of_decide_eq_true (by first | (with_reducible assumption) | assumption)) (Below.refl _ _) (Nat.le_refl _) ?_; intro v109 w9 ho10 hb hg_ hnew_; clear hg_ hnew_; (first | rw [← Ny108.out] at ho10 | (simp only [Int.reduceToNat] at ho10; rw [← Ny108.out] at ho10)); have n0_ := Aside0.mk (Kd.R_elder' (by (with_reducible repeat (first | apply Kd.R_alloc | apply Kd.R_drewN | apply Kd.R_drew)); exact HO107.out) (Kd.R_base ho10) hb); have n1_ := Aside0.mk (Kd.R_lower (Kd.R_new' ho10 (Kd.R_lt (by (with_reducible repeat (first | apply Kd.R_alloc | apply Kd.R_drewN | apply Kd.R_drew)); exact HO107.out))) (below_size (by repeat (first | (with_reducible first | exact HB.out | apply below_alloc | apply pw_below_drewN | apply below_drew1) | exact HB.out)))); have n2_ := Aside0.mk (below_step (by repeat (first | (with_reducible first | exact HB.out | apply below_alloc | apply pw_below_drewN | apply below_drew1) | exact HB.out)) hb); clear HO107; clear HB; have HO107 := n0_; have HO110 := n1_; have HB := n2_; clear n0_ n1_ n2_; clear hb ho10; obtain ⟨Ao11, co11, eo11⟩ := Kd.R_slice HO107.out; subst eo11; obtain ⟨Ao12, co12, eo12⟩ := Kd.R_slice HO110.out; subst eo12) | ((with_reducible refine gate_callee (f := 53) rfl ?_); refine goesL_ (some 11) rfl rfl Tryd.func53 (by kernel_rfl) rfl #[.slice Ao11 y105.length co11, .slice Ao12 y108.length co12] rfl (by (try simp only [List.map_toArray, List.map_cons, List.map_nil]); first | done | rfl | (simp only [List.length_drop, List.length_take]; rfl)) ?_; (with_reducible refine (diffmatchpatch_commonPrefixLength.calls k _ _ y105 _ _ y108 t111 _ ?side1 ?side2 ?side3 ?side4 A6.out).mono ?_); (case side1 => repeat (first | exact (Kd.R_reads' HO107.out).2.2 | (with_reducible refine Kd.C_alloc ?_ _) | (with_reducible refine Kd.C_drewN ?_ _) | (with_reducible refine Kd.C_drew ?_))); (case side2 => exact (Kd.R_reads' HO107.out).2.1); (case side3 => repeat (first | exact (Kd.R_reads' HO110.out).2.2 | (with_reducible refine Kd.C_alloc ?_ _) | (with_reducible refine Kd.C_drewN ?_ _) | (with_reducible refine Kd.C_drew ?_))); (case side4 => exact (Kd.R_reads' HO110.out).2.1); rintro e w' ⟨rfl, ⟨nd, rfl⟩⟩; refine ⟨_, rfl, ?_⟩))
      go_ret
      exact ⟨by first | rfl | (simp [errW_none, errW_some] <;> rfl) | (simp [*, errW_none, errW_some] <;> rfl), by repeat (first | (with_reducible first | exact HB.out | apply below_alloc | apply pw_below_drewN | apply below_drew1) | exact HB.out)⟩
    · rw [if_neg c5] at H
      exact absurd H (by simp)
  · rw [if_neg c4] at H
    exact absurd H (by simp)

/-! ### impl_Prefix: function 12 -/
def impl_Prefix.f (k : Nat) (a0 : ByteArray) (a1 : ByteArray) : Option (Int) := (impl_plain.f).bind fun _ => ((diffmatchpatch_DiffMatchPatch_DiffCommonPrefix.f k a0 a1).bind fun t113 => (some t113))
theorem impl_Prefix.mono : ∀ a0 a1 k, LeO (impl_Prefix.f k a0 a1) (impl_Prefix.f (k + 1) a0 a1) := by
  intro a0 a1 k
  unfold impl_Prefix.f
  repeat' first
      | (with_reducible exact diffmatchpatch_DiffMatchPatch_DiffCommonPrefix.mono _ _ _)
      | (with_reducible exact LeO.refl _)
      | (with_reducible exact LeO.none _)
      | (with_reducible refine LeO.ite ?_ ?_)
      | (with_reducible refine LeO.bind ?_ (fun _ => ?_))
      | exact diffmatchpatch_DiffMatchPatch_DiffCommonPrefix.mono _ _ _
      | exact LeO.none _
      | refine LeO.ite ?_ ?_
      | refine LeO.bind ?_ (fun _ => ?_)
set_option maxHeartbeats 8000000 in
set_option maxRecDepth 100000 in
theorem impl_Prefix.calls (k : Nat) (a0 : ByteArray) (a1 : ByteArray) (r : Int) (w : World) (h : impl_Prefix.f k a0 a1 = some r) :
    Calls Tryd.prog 12 #[.string a0, .string a1] w fun e w' => e = .returned (.int .i64 r) ∧ Below w.heap.size w w' := by
  have HB := Aside0.mk (Below.refl w.heap.size w)
  have H : ((impl_plain.f).bind fun _ => ((diffmatchpatch_DiffMatchPatch_DiffCommonPrefix.f k a0 a1).bind fun t113 => (some t113))) = some r := h
  clear h
  replace H := Option.bind_eq_some_iff.mp H
  obtain ⟨_, A30, H⟩ := H
  replace H : ((diffmatchpatch_DiffMatchPatch_DiffCommonPrefix.f k a0 a1).bind fun t113 => (some t113)) = some r := H
  have A3 := Aside0.mk A30
  clear A30
  replace H := Option.bind_eq_some_iff.mp H
  obtain ⟨t113, A40, H⟩ := H
  replace H : (some t113) = some r := H
  have A4 := Aside0.mk A40
  clear A40
  obtain rfl := Option.some.inj H
  go_enter Tryd.func12, Tryd.ntmps12
  go_wp2_with (first | ((with_reducible refine gate_callee (f := 35) rfl ?_); refine goesL_ (some 5) rfl rfl Tryd.func35 (by kernel_rfl) rfl #[] rfl (by (try simp only [List.map_toArray, List.map_cons, List.map_nil]); first | done | rfl | (simp only [List.length_drop, List.length_take]; rfl)) ?_; (with_reducible refine (impl_plain.calls   _ A3.out).mono ?_); rintro e w5 ⟨v112, rfl, hb⟩; refine ⟨_, rfl, ?_⟩; have n0_ := Aside0.mk (below_step (by repeat (first | (with_reducible first | exact HB.out | apply below_alloc | apply pw_below_drewN | apply below_drew1) | exact HB.out)) hb); clear HB; have HB := n0_; clear n0_; (try clear hb); (try clear hb2); (try clear hk); (try clear hi)) | ((with_reducible refine gate_callee (f := 36) rfl ?_); refine goesL_ (some 8) rfl rfl Tryd.func36 (by kernel_rfl) rfl #[v112, .string a0, .string a1] rfl (by (try simp only [List.map_toArray, List.map_cons, List.map_nil]); first | done | rfl | (simp only [List.length_drop, List.length_take]; rfl)) ?_; (with_reducible refine (diffmatchpatch_DiffMatchPatch_DiffCommonPrefix.calls k v112 a0 a1 t113 _ A4.out).mono ?_); rintro e w6 ⟨rfl, hb⟩; refine ⟨_, rfl, ?_⟩; have n0_ := Aside0.mk (below_step (by repeat (first | (with_reducible first | exact HB.out | apply below_alloc | apply pw_below_drewN | apply below_drew1) | exact HB.out)) hb); clear HB; have HB := n0_; clear n0_; (try clear hb); (try clear hb2); (try clear hk); (try clear hi)))
  go_ret
  exact ⟨by first | rfl | (simp [errW_none, errW_some] <;> rfl) | (simp [*, errW_none, errW_some] <;> rfl), by repeat (first | (with_reducible first | exact HB.out | apply below_alloc | apply pw_below_drewN | apply below_drew1) | exact HB.out)⟩

/-! ### spec_DiffPrefix: function 13 -/
def spec_DiffPrefix.l0 : Nat → List Int → List Int → Int → Option (Int)
  | 0, _, _, _ => none
  | k + 1, x5, x6, x7 => if x7 < (x5.length : Int) then (if x7 < (x6.length : Int) then (if 0 ≤ x7 then (if (rd x5 x7) = (rd x6 x7) then (spec_DiffPrefix.l0 k x5 x6 (wrap64 (x7 + 1))) else (some x7)) else (none)) else (some x7)) else (some x7)
def spec_DiffPrefix.f (k : Nat) (a0 : ByteArray) (a1 : ByteArray) : Option (Int) := if (runesI a0).length ≤ 70368744177664 then (if (runesI a1).length ≤ 70368744177664 then (spec_DiffPrefix.l0 k (runesI a0) (runesI a1) 0) else (none)) else (none)
theorem spec_DiffPrefix.mono_l : ∀ k, (∀ y0 y1 y2, LeO (spec_DiffPrefix.l0 k y0 y1 y2) (spec_DiffPrefix.l0 (k + 1) y0 y1 y2))
  | 0 => fun _ _ _ r h => by simp [spec_DiffPrefix.l0] at h
  | k + 1 => by
    have ih0 := spec_DiffPrefix.mono_l k
    · intro y0 y1 y2
      unfold spec_DiffPrefix.l0
      repeat' first
      | (with_reducible exact ih0 _ _ _)
      | (with_reducible exact LeO.refl _)
      | (with_reducible exact LeO.none _)
      | (with_reducible refine LeO.ite ?_ ?_)
      | (with_reducible refine LeO.bind ?_ (fun _ => ?_))
      | exact ih0 _ _ _
      | exact LeO.none _
      | refine LeO.ite ?_ ?_
      | refine LeO.bind ?_ (fun _ => ?_)
theorem spec_DiffPrefix.mono : ∀ a0 a1 k, LeO (spec_DiffPrefix.f k a0 a1) (spec_DiffPrefix.f (k + 1) a0 a1) := by
  intro a0 a1 k
  have ih0 := spec_DiffPrefix.mono_l k
  unfold spec_DiffPrefix.f
  repeat' first
      | (with_reducible exact ih0 _ _ _)
      | (with_reducible exact LeO.refl _)
      | (with_reducible exact LeO.none _)
      | (with_reducible refine LeO.ite ?_ ?_)
      | (with_reducible refine LeO.bind ?_ (fun _ => ?_))
      | exact ih0 _ _ _
      | exact LeO.none _
      | refine LeO.ite ?_ ?_
      | refine LeO.bind ?_ (fun _ => ?_)
set_option maxHeartbeats 8000000 in
set_option maxRecDepth 100000 in
theorem spec_DiffPrefix.calls (k : Nat) (a0 : ByteArray) (a1 : ByteArray) (r : Int) (w : World) (h : spec_DiffPrefix.f k a0 a1 = some r) :
    Calls Tryd.prog 13 #[.string a0, .string a1] w fun e w' => e = .returned (.int .i64 r) ∧ Below w.heap.size w w' := by
  have HB := Aside0.mk (Below.refl w.heap.size w)
  have H : (if (runesI a0).length ≤ 70368744177664 then (if (runesI a1).length ≤ 70368744177664 then (spec_DiffPrefix.l0 k (runesI a0) (runesI a1) 0) else (none)) else (none)) = some r := h
  clear h
  by_cases c3 : (runesI a0).length ≤ 70368744177664
  · rw [if_pos c3] at H
    have c3b0 := eq_true c3
    have c3b1 : decide ((runesI a0).length ≤ 70368744177664) = true := decide_eq_true c3
    clear c3
    obtain ⟨y114, hy114⟩ : ∃ y_ : List Int, y_ = (runesI a0) := ⟨_, rfl⟩
    replace H : (if (runesI a1).length ≤ 70368744177664 then (spec_DiffPrefix.l0 k y114 (runesI a1) 0) else (none)) = some r := by first | (rw [hy114]; with_reducible exact H) | (have H2_ := (Option.bind_some _ _).symm.trans H; rw [hy114]; with_reducible exact H2_) | (have H2_ := (Option.bind_some _ _).symm.trans H; with_reducible exact H2_) | with_reducible exact H | (rw [hy114]; exact H) | exact H
    have Ny114 := Aside0.mk hy114
    clear hy114
    by_cases c4 : (runesI a1).length ≤ 70368744177664
    · rw [if_pos c4] at H
      have c4b0 := eq_true c4
      have c4b1 : decide ((runesI a1).length ≤ 70368744177664) = true := decide_eq_true c4
      clear c4
      obtain ⟨y117, hy117⟩ : ∃ y_ : List Int, y_ = (runesI a1) := ⟨_, rfl⟩
      replace H : (spec_DiffPrefix.l0 k y114 y117 0) = some r := by first | (rw [hy117]; with_reducible exact H) | (have H2_ := (Option.bind_some _ _).symm.trans H; rw [hy117]; with_reducible exact H2_) | (have H2_ := (Option.bind_some _ _).symm.trans H; with_reducible exact H2_) | with_reducible exact H | (rw [hy117]; exact H) | exact H
      have Ny117 := Aside0.mk hy117
      clear hy117
      have H' := Aside0.mk H
      clear H
      go_enter Tryd.func13, Tryd.ntmps13
      go_wp2_with (first | ((with_reducible refine gate_dst (N := 9) rfl ?_); (try (refine gate_guard (by rfl) ?_; dsimp only)); refine Kd.R_runes _ 21 rfl (N := 9) rfl 9 45 _ rfl a0 rfl Tryd.underlying9 Tryd.underlying45 Tryd.underlying21 info21 (ok := fun _ => True) (okp := fun _ => True) (fun _ hk => hk) trivial (of_decide_eq_true (by first | (with_reducible assumption) | assumption)) (Below.refl _ _) (Nat.le_refl _) ?_; intro v115 w5 ho6 hb hg_ hnew_; clear hg_ hnew_; (first | rw [← Ny114.out] at ho6 | (simp only [Int.reduceToNat] at ho6; rw [← Ny114.out] at ho6)); have n0_ := Aside0.mk (Kd.R_lower ho6 (below_size (by repeat (first | (with_reducible first | exact HB.out | apply below_alloc | apply pw_below_drewN | apply below_drew1) | exact HB.out)))); have n1_ := Aside0.mk (below_step (by repeat (first | (with_reducible first | exact HB.out | apply below_alloc | apply pw_below_drewN | apply below_drew1) | exact HB.out)) hb); clear HB; have HO116 := n0_; have HB := n1_; clear n0_ n1_; clear hb ho6) | ((with_reducible refine gate_dst (N := 11) rfl ?_); (try (refine gate_guard (by rfl) ?_; dsimp only)); refine Kd.R_runes _ 21 rfl (N := 11) rfl 9 45 _ rfl a1 rfl Tryd.underlying9 Tryd.underlying45 Tryd.underlying21 info21 (ok := fun _ => True) (okp := fun _ => True) (fun _ hk => hk) trivial (of_decide_eq_true (by first | (with_reducible assumption) | assumption)) (Below.refl _ _) (Nat.le_refl _) ?_; intro v118 w7 ho8 hb hg_ hnew_; clear hg_ hnew_; (first | rw [← Ny117.out] at ho8 | (simp only [Int.reduceToNat] at ho8; rw [← Ny117.out] at ho8)); have n0_ := Aside0.mk (Kd.R_elder' (by (with_reducible repeat (first | apply Kd.R_alloc | apply Kd.R_drewN | apply Kd.R_drew)); exact HO116.out) (Kd.R_base ho8) hb); have n1_ := Aside0.mk (Kd.R_lower (Kd.R_new' ho8 (Kd.R_lt (by (with_reducible repeat (first | apply Kd.R_alloc | apply Kd.R_drewN | apply Kd.R_drew)); exact HO116.out))) (below_size (by repeat (first | (with_reducible first | exact HB.out | apply below_alloc | apply pw_below_drewN | apply below_drew1) | exact HB.out)))); have n2_ := Aside0.mk (below_step (by repeat (first | (with_reducible first | exact HB.out | apply below_alloc | apply pw_below_drewN | apply below_drew1) | exact HB.out)) hb); clear HO116; clear HB; have HO116 := n0_; have HO119 := n1_; have HB := n2_; clear n0_ n1_ n2_; clear hb ho8))
      repeat (go_quiet (first | ((with_reducible refine gate_dst (N := 9) rfl ?_); (try (refine gate_guard (by rfl) ?_; dsimp only)); refine Kd.R_runes _ 21 rfl (N := 9) rfl 9 45 _ rfl a0 rfl Tryd.underlying9 Tryd.underlying45 Tryd.underlying21 info21 (ok := fun _ => True) (okp := fun _ => True) (fun _ hk => hk) trivial (of_decide_eq_true (by first | (with_reducible assumption) | assumption)) (Below.refl _ _) (Nat.le_refl _) ?_; intro v115 w5 ho6 hb hg_ hnew_; clear hg_ hnew_; (first | rw [← Ny114.out] at ho6 | (simp only [Int.reduceToNat] at ho6; rw [← Ny114.out] at ho6)); have n0_ := Aside0.mk (Kd.R_lower ho6 (below_size (by repeat (first | (with_reducible first | exact HB.out | apply below_alloc | apply pw_below_drewN | apply below_drew1) | exact HB.out)))); have n1_ := Aside0.mk (below_step (by repeat (first | (with_reducible first | exact HB.out | apply below_alloc | apply pw_below_drewN | apply below_drew1) | exact HB.out)) hb); clear HB; have HO116 := n0_; have HB := n1_; clear n0_ n1_; clear hb ho6) | ((with_reducible refine gate_dst (N := 11) rfl ?_); (try (refine gate_guard (by rfl) ?_; dsimp only)); refine Kd.R_runes _ 21 rfl (N := 11) rfl 9 45 _ rfl a1 rfl Tryd.underlying9 Tryd.underlying45 Tryd.underlying21 info21 (ok := fun _ => True) (okp := fun _ => True) (fun _ hk => hk) trivial (of_decide_eq_true (by first | (with_reducible assumption) | assumption)) (Below.refl _ _) (Nat.le_refl _) ?_; intro v118 w7 ho8 hb hg_ hnew_; clear hg_ hnew_; (first | rw [← Ny117.out] at ho8 | (simp only [Int.reduceToNat] at ho8; rw [← Ny117.out] at ho8)); have n0_ := Aside0.mk (Kd.R_elder' (by (with_reducible repeat (first | apply Kd.R_alloc | apply Kd.R_drewN | apply Kd.R_drew)); exact HO116.out) (Kd.R_base ho8) hb); have n1_ := Aside0.mk (Kd.R_lower (Kd.R_new' ho8 (Kd.R_lt (by (with_reducible repeat (first | apply Kd.R_alloc | apply Kd.R_drewN | apply Kd.R_drew)); exact HO116.out))) (below_size (by repeat (first | (with_reducible first | exact HB.out | apply below_alloc | apply pw_below_drewN | apply below_drew1) | exact HB.out)))); have n2_ := Aside0.mk (below_step (by repeat (first | (with_reducible first | exact HB.out | apply below_alloc | apply pw_below_drewN | apply below_drew1) | exact HB.out)) hb); clear HO116; clear HB; have HO116 := n0_; have HO119 := n1_; have HB := n2_; clear n0_ n1_ n2_; clear hb ho8)); try go_wp2_with (first | ((with_reducible refine gate_dst (N := 9) rfl ?_); (try (refine gate_guard (by rfl) ?_; dsimp only)); refine Kd.R_runes _ 21 rfl (N := 9) rfl 9 45 _ rfl a0 rfl Tryd.underlying9 Tryd.underlying45 Tryd.underlying21 info21 (ok := fun _ => True) (okp := fun _ => True) (fun _ hk => hk) trivial (of_decide_eq_true (by first | (with_reducible assumption) | assumption)) (Below.refl _ _) (Nat.le_refl _) ?_; intro v115 w5 ho6 hb hg_ hnew_; clear hg_ hnew_; (first | rw [← Ny114.out] at ho6 | (simp only [Int.reduceToNat] at ho6; rw [← Ny114.out] at ho6)); have n0_ := Aside0.mk (Kd.R_lower ho6 (below_size (by repeat (first | (with_reducible first | exact HB.out | apply below_alloc | apply pw_below_drewN | apply below_drew1) | exact HB.out)))); have n1_ := Aside0.mk (below_step (by repeat (first | (with_reducible first | exact HB.out | apply below_alloc | apply pw_below_drewN | apply below_drew1) | exact HB.out)) hb); clear HB; have HO116 := n0_; have HB := n1_; clear n0_ n1_; clear hb ho6) | ((with_reducible refine gate_dst (N := 11) rfl ?_); (try (refine gate_guard (by rfl) ?_; dsimp only)); refine Kd.R_runes _ 21 rfl (N := 11) rfl 9 45 _ rfl a1 rfl Tryd.underlying9 Tryd.underlying45 Tryd.underlying21 info21 (ok := fun _ => True) (okp := fun _ => True) (fun _ hk => hk) trivial (of_decide_eq_true (by first | (with_reducible assumption) | assumption)) (Below.refl _ _) (Nat.le_refl _) ?_; intro v118 w7 ho8 hb hg_ hnew_; clear hg_ hnew_; (first | rw [← Ny117.out] at ho8 | (simp only [Int.reduceToNat] at ho8; rw [← Ny117.out] at ho8)); have n0_ := Aside0.mk (Kd.R_elder' (by (with_reducible repeat (first | apply Kd.R_alloc | apply Kd.R_drewN | apply Kd.R_drew)); exact HO116.out) (Kd.R_base ho8) hb); have n1_ := Aside0.mk (Kd.R_lower (Kd.R_new' ho8 (Kd.R_lt (by (with_reducible repeat (first | apply Kd.R_alloc | apply Kd.R_drewN | apply Kd.R_drew)); exact HO116.out))) (below_size (by repeat (first | (with_reducible first | exact HB.out | apply below_alloc | apply pw_below_drewN | apply below_drew1) | exact HB.out)))); have n2_ := Aside0.mk (below_step (by repeat (first | (with_reducible first | exact HB.out | apply below_alloc | apply pw_below_drewN | apply below_drew1) | exact HB.out)) hb); clear HO116; clear HB; have HO116 := n0_; have HO119 := n1_; have HB := n2_; clear n0_ n1_ n2_; clear hb ho8)))
      go_loopg [7] k (fun kq v7 w' => ∃ (x7_1 : Int), v7 = .int .i64 x7_1 ∧ Aside0 (spec_DiffPrefix.l0 kq y114 y117 x7_1 = some r) ∧ Aside0 (kq ≤ k) ∧ Aside0 (Kd.R (Kd.int .i32) 21 w' w.heap.size (fun k_ => some k_ ≠ (v118 : Value).ownBlock) v115 y114) ∧ Aside0 (Kd.R (Kd.int .i32) 21 w' w.heap.size (fun k_ => some k_ ≠ (v115 : Value).ownBlock) v118 y117) ∧ Aside0 (Below w.heap.size w w'))
      case atStart => exact ⟨(0), (by first | rfl | (simp; done) | (simp [*]; done)), H', ⟨Nat.le_refl _⟩, ⟨by (with_reducible repeat (first | apply Kd.R_alloc | apply Kd.R_drewN | apply Kd.R_drew)); exact Kd.R_mono HO116.out (fun _ hk => hk.2)⟩, ⟨by (with_reducible repeat (first | apply Kd.R_alloc | apply Kd.R_drewN | apply Kd.R_drew)); exact Kd.R_mono HO119.out (fun _ hk => hk.2)⟩, ⟨by repeat (first | (with_reducible first | exact HB.out | apply below_alloc | apply pw_below_drewN | apply below_drew1) | exact HB.out)⟩⟩
      case round =>
        clear H'
        try clear c1
        try clear p2
        try clear c3
        try clear c3b0
        try clear c3b1
        try clear c4
        try clear c4b0
        try clear c4b1
        obtain ⟨x7_1, rfl, HA, HK1, HO_5, HO_6, HB⟩ := hrel
        cases gk with
        | zero => exact absurd HA.out (by simp [spec_DiffPrefix.l0])
        | succ k1 =>
          have H := HA.out
          clear HA
          simp only [spec_DiffPrefix.l0] at H
          by_cases c9 : x7_1 < (y114.length : Int)
          · rw [if_pos c9] at H
            have c9b0 : decide (x7_1 < (y114.length : Int)) = true := decide_eq_true c9
            clear c9
            by_cases c10 : x7_1 < (y117.length : Int)
            · rw [if_pos c10] at H
              have c10b0 : decide (x7_1 < (y117.length : Int)) = true := decide_eq_true c10
              clear c10
              by_cases c11 : 0 ≤ x7_1
              · rw [if_pos c11] at H
                have c11b0 : decide (0 ≤ x7_1) = true := decide_eq_true c11
                clear c11
                by_cases c12 : (rd y114 x7_1) = (rd y117 x7_1)
                · rw [if_pos c12] at H
                  have c12b0 : ((rd y114 x7_1) == (rd y117 x7_1)) = true := beq_iff_eq.mpr c12
                  have c12b1 : ((rd y114 x7_1) != (rd y117 x7_1)) = false := bne_eq_false_iff_eq.mpr c12
                  clear c12
                  have H' := Aside0.mk H
                  clear H
                  obtain ⟨Ao13, co13, eo13⟩ := Kd.R_slice HO_5.out
                  subst eo13
                  obtain ⟨Ao14, co14, eo14⟩ := Kd.R_slice HO_6.out
                  subst eo14
                  have p120 : 0 ≤ (x7_1 : Int) := of_decide_eq_true (by first | (with_reducible assumption) | assumption)
                  have q120 : x7_1 < (y114.length : Int) := of_decide_eq_true (by first | (with_reducible assumption) | assumption)
                  obtain ⟨ad120, e120, hx120_0⟩ := Kd.at_int (Kd.R_reads' HO_5.out).2.2 x7_1 p120 q120
                  cases e120
                  replace p120 := eq_true p120
                  replace q120 := eq_true q120
                  have p121 : 0 ≤ (x7_1 : Int) := of_decide_eq_true (by first | (with_reducible assumption) | assumption)
                  have q121 : x7_1 < (y117.length : Int) := of_decide_eq_true (by first | (with_reducible assumption) | assumption)
                  obtain ⟨ad121, e121, hx121_0⟩ := Kd.at_int (Kd.R_reads' HO_6.out).2.2 x7_1 p121 q121
                  cases e121
                  replace p121 := eq_true p121
                  replace q121 := eq_true q121
                  go_wp2
                  repeat (go_quiet (fail); try go_wp2)
                  go_roundg k1
                  case measure => have := HK1.out; omega
                  case rel => exact ⟨(wrap64 (x7_1 + 1)), (by first | rfl | (simp; done) | (simp [*]; done)), H', ⟨by have := HK1.out; omega⟩, ⟨by (with_reducible repeat (first | apply Kd.R_alloc | apply Kd.R_drewN | apply Kd.R_drew)); exact HO_5.out⟩, ⟨by (with_reducible repeat (first | apply Kd.R_alloc | apply Kd.R_drewN | apply Kd.R_drew)); exact HO_6.out⟩, ⟨by repeat (first | (with_reducible first | exact HB.out | apply below_alloc | apply pw_below_drewN | apply below_drew1) | exact HB.out)⟩⟩
                · rw [if_neg c12] at H
                  have c12b0 : ((rd y114 x7_1) == (rd y117 x7_1)) = false := beq_eq_false_iff_ne.mpr c12
                  have c12b1 : ((rd y114 x7_1) != (rd y117 x7_1)) = true := bne_iff_ne.mpr c12
                  obtain rfl := Option.some.inj H
                  obtain ⟨Ao15, co15, eo15⟩ := Kd.R_slice HO_5.out
                  subst eo15
                  obtain ⟨Ao16, co16, eo16⟩ := Kd.R_slice HO_6.out
                  subst eo16
                  have p120 : 0 ≤ (x7_1 : Int) := of_decide_eq_true (by first | (with_reducible assumption) | assumption)
                  have q120 : x7_1 < (y114.length : Int) := of_decide_eq_true (by first | (with_reducible assumption) | assumption)
                  obtain ⟨ad120, e120, hx120_0⟩ := Kd.at_int (Kd.R_reads' HO_5.out).2.2 x7_1 p120 q120
                  cases e120
                  replace p120 := eq_true p120
                  replace q120 := eq_true q120
                  have p121 : 0 ≤ (x7_1 : Int) := of_decide_eq_true (by first | (with_reducible assumption) | assumption)
                  have q121 : x7_1 < (y117.length : Int) := of_decide_eq_true (by first | (with_reducible assumption) | assumption)
                  obtain ⟨ad121, e121, hx121_0⟩ := Kd.at_int (Kd.R_reads' HO_6.out).2.2 x7_1 p121 q121
                  cases e121
                  replace p121 := eq_true p121
                  replace q121 := eq_true q121
                  go_wp2
                  repeat (go_quiet (fail); try go_wp2)
                  go_ret
                  exact ⟨by first | rfl | (simp [errW_none, errW_some] <;> rfl) | (simp [*, errW_none, errW_some] <;> rfl), by repeat (first | (with_reducible first | exact HB.out | apply below_alloc | apply pw_below_drewN | apply below_drew1) | exact HB.out)⟩
              · rw [if_neg c11] at H
                exact absurd H (by simp)
            · rw [if_neg c10] at H
              have c10b0 : decide (x7_1 < (y117.length : Int)) = false := decide_eq_false c10
              clear c10
              obtain rfl := Option.some.inj H
              obtain ⟨Ao17, co17, eo17⟩ := Kd.R_slice HO_5.out
              subst eo17
              obtain ⟨Ao18, co18, eo18⟩ := Kd.R_slice HO_6.out
              subst eo18
              go_wp2
              repeat (go_quiet (fail); try go_wp2)
              go_ret
              exact ⟨by first | rfl | (simp [errW_none, errW_some] <;> rfl) | (simp [*, errW_none, errW_some] <;> rfl), by repeat (first | (with_reducible first | exact HB.out | apply below_alloc | apply pw_below_drewN | apply below_drew1) | exact HB.out)⟩
          · rw [if_neg c9] at H
            have c9b0 : decide (x7_1 < (y114.length : Int)) = false := decide_eq_false c9
            clear c9
            obtain rfl := Option.some.inj H
            obtain ⟨Ao19, co19, eo19⟩ := Kd.R_slice HO_5.out
            subst eo19
            go_wp2
            repeat (go_quiet (fail); try go_wp2)
            go_ret
            exact ⟨by first | rfl | (simp [errW_none, errW_some] <;> rfl) | (simp [*, errW_none, errW_some] <;> rfl), by repeat (first | (with_reducible first | exact HB.out | apply below_alloc | apply pw_below_drewN | apply below_drew1) | exact HB.out)⟩
    · rw [if_neg c4] at H
      exact absurd H (by simp)
  · rw [if_neg c3] at H
    exact absurd H (by simp)

/-! ### diffmatchpatch_commonSuffixLength: function 54 -/
def diffmatchpatch_commonSuffixLength.l0 : Nat → List Int → List Int → Int → Int → Int → Option (Int)
  | 0, _, _, _, _, _ => none
  | k + 1, x0, x1, x5, x6, x7 => if (wrap64 (x5 - 1)) < 0 then (some x7) else (if (wrap64 (x6 - 1)) < 0 then (some x7) else (if 0 ≤ (wrap64 (x5 - 1)) then (if (wrap64 (x5 - 1)) < (x0.length : Int) then (if 0 ≤ (wrap64 (x6 - 1)) then (if (wrap64 (x6 - 1)) < (x1.length : Int) then (if (rd x0 (wrap64 (x5 - 1))) = (rd x1 (wrap64 (x6 - 1))) then (diffmatchpatch_commonSuffixLength.l0 k x0 x1 (wrap64 (x5 - 1)) (wrap64 (x6 - 1)) (wrap64 (x7 + 1))) else (some x7)) else (none)) else (none)) else (none)) else (none)))
def diffmatchpatch_commonSuffixLength.f (k : Nat) (l0 : List Int) (l1 : List Int) : Option (Int) := diffmatchpatch_commonSuffixLength.l0 k l0 l1 (l0.length : Int) (l1.length : Int) 0
theorem diffmatchpatch_commonSuffixLength.mono_l : ∀ k, (∀ y0 y1 y2 y3 y4, LeO (diffmatchpatch_commonSuffixLength.l0 k y0 y1 y2 y3 y4) (diffmatchpatch_commonSuffixLength.l0 (k + 1) y0 y1 y2 y3 y4))
  | 0 => fun _ _ _ _ _ r h => by simp [diffmatchpatch_commonSuffixLength.l0] at h
  | k + 1 => by
    have ih0 := diffmatchpatch_commonSuffixLength.mono_l k
    · intro y0 y1 y2 y3 y4
      unfold diffmatchpatch_commonSuffixLength.l0
      repeat' first
      | (with_reducible exact ih0 _ _ _ _ _)
      | (with_reducible exact LeO.refl _)
      | (with_reducible exact LeO.none _)
      | (with_reducible refine LeO.ite ?_ ?_)
      | (with_reducible refine LeO.bind ?_ (fun _ => ?_))
      | exact ih0 _ _ _ _ _
      | exact LeO.none _
      | refine LeO.ite ?_ ?_
      | refine LeO.bind ?_ (fun _ => ?_)
theorem diffmatchpatch_commonSuffixLength.mono : ∀ a0 a1 k, LeO (diffmatchpatch_commonSuffixLength.f k a0 a1) (diffmatchpatch_commonSuffixLength.f (k + 1) a0 a1) := by
  intro a0 a1 k
  have ih0 := diffmatchpatch_commonSuffixLength.mono_l k
  unfold diffmatchpatch_commonSuffixLength.f
  repeat' first
      | (with_reducible exact ih0 _ _ _ _ _)
      | (with_reducible exact LeO.refl _)
      | (with_reducible exact LeO.none _)
      | (with_reducible refine LeO.ite ?_ ?_)
      | (with_reducible refine LeO.bind ?_ (fun _ => ?_))
      | exact ih0 _ _ _ _ _
      | exact LeO.none _
      | refine LeO.ite ?_ ?_
      | refine LeO.bind ?_ (fun _ => ?_)
set_option maxHeartbeats 8000000 in
set_option maxRecDepth 100000 in
theorem diffmatchpatch_commonSuffixLength.calls (k : Nat) (A0 : Option Addr) (c0 : Nat) (l0 : List Int) (A1 : Option Addr) (c1 : Nat) (l1 : List Int) (r : Int) (w : World) (hr0 : Kd.C (Kd.int .i32) w A0 l0.length l0) (hc0 : l0.length ≤ c0) (hr1 : Kd.C (Kd.int .i32) w A1 l1.length l1) (hc1 : l1.length ≤ c1) (h : diffmatchpatch_commonSuffixLength.f k l0 l1 = some r) :
    Calls Tryd.prog 54 #[.slice A0 l0.length c0, .slice A1 l1.length c1] w fun e w' => e = .returned (.int .i64 r) ∧ Drawn0 w w' := by
  have HR0 := Aside0.mk hr0
  have HC0 := Aside0.mk hc0
  clear hr0 hc0
  have HR1 := Aside0.mk hr1
  have HC1 := Aside0.mk hc1
  clear hr1 hc1
  have H : (diffmatchpatch_commonSuffixLength.l0 k l0 l1 (l0.length : Int) (l1.length : Int) 0) = some r := h
  clear h
  have H' := Aside0.mk H
  clear H
  go_enter Tryd.func54, Tryd.ntmps54
  go_wp2
  repeat (go_quiet (fail); try go_wp2)
  go_loopg [5, 6, 7] k (fun kq v5 v6 v7 w' => ∃ (x5_1 : Int) (x6_1 : Int) (x7_1 : Int), v5 = .int .i64 x5_1 ∧ v6 = .int .i64 x6_1 ∧ v7 = .int .i64 x7_1 ∧ Aside0 (diffmatchpatch_commonSuffixLength.l0 kq l0 l1 x5_1 x6_1 x7_1 = some r) ∧ Aside0 (kq ≤ k) ∧ Drawn0 w w')
  case atStart => exact ⟨((l0.length : Int)), ((l1.length : Int)), (0), (by first | rfl | (simp; done) | (simp [*]; done)), (by first | rfl | (simp; done) | (simp [*]; done)), (by first | rfl | (simp; done) | (simp [*]; done)), H', ⟨Nat.le_refl _⟩, by repeat (first | exact Drawn0.refl _ | apply Drawn0.step)⟩
  case round =>
    clear H'
    try clear c1
    try clear p2
    obtain ⟨x5_1, x6_1, x7_1, rfl, rfl, rfl, HA, HK1, ⟨m1, rfl⟩⟩ := hrel
    cases gk with
    | zero => exact absurd HA.out (by simp [diffmatchpatch_commonSuffixLength.l0])
    | succ k1 =>
      have H := HA.out
      clear HA
      simp only [diffmatchpatch_commonSuffixLength.l0] at H
      by_cases c3 : (wrap64 (x5_1 - 1)) < 0
      · rw [if_pos c3] at H
        have c3b0 : decide ((wrap64 (x5_1 - 1)) < 0) = true := decide_eq_true c3
        clear c3
        obtain rfl := Option.some.inj H
        go_wp2
        repeat (go_quiet (fail); try go_wp2)
        go_ret
        exact ⟨by first | rfl | (simp; done) | (simp [*]; done), by repeat (first | exact Drawn0.refl _ | apply Drawn0.step)⟩
      · rw [if_neg c3] at H
        have c3b0 : decide ((wrap64 (x5_1 - 1)) < 0) = false := decide_eq_false c3
        clear c3
        by_cases c4 : (wrap64 (x6_1 - 1)) < 0
        · rw [if_pos c4] at H
          have c4b0 : decide ((wrap64 (x6_1 - 1)) < 0) = true := decide_eq_true c4
          clear c4
          obtain rfl := Option.some.inj H
          go_wp2
          repeat (go_quiet (fail); try go_wp2)
          go_ret
          exact ⟨by first | rfl | (simp; done) | (simp [*]; done), by repeat (first | exact Drawn0.refl _ | apply Drawn0.step)⟩
        · rw [if_neg c4] at H
          have c4b0 : decide ((wrap64 (x6_1 - 1)) < 0) = false := decide_eq_false c4
          clear c4
          obtain ⟨ji5, hji5⟩ : ∃ j_ : Int, (wrap64 (x5_1 - 1)) = j_ := ⟨_, rfl⟩
          replace H : (if 0 ≤ (ji5) then (if (ji5) < (l0.length : Int) then (if 0 ≤ (wrap64 (x6_1 - 1)) then (if (wrap64 (x6_1 - 1)) < (l1.length : Int) then (if (rd l0 (ji5)) = (rd l1 (wrap64 (x6_1 - 1))) then (diffmatchpatch_commonSuffixLength.l0 k1 l0 l1 ji5 (wrap64 (x6_1 - 1)) (wrap64 (x7_1 + 1))) else (some x7_1)) else (none)) else (none)) else (none)) else (none)) = some r := by first | (rw [hji5] at H; exact H) | (simp only [hji5] at H ⊢; exact H)
          (try rw [hji5] at c3b0)
          have hji5w : (IntKind.i64.wrap (x5_1 - 1)) = ji5 := (i64_w _).trans hji5
          by_cases c6 : 0 ≤ (ji5)
          · rw [if_pos c6] at H
            have c6b0 : decide (0 ≤ (ji5)) = true := decide_eq_true c6
            clear c6
            by_cases c7 : (ji5) < (l0.length : Int)
            · rw [if_pos c7] at H
              have c7b0 : decide ((ji5) < (l0.length : Int)) = true := decide_eq_true c7
              clear c7
              obtain ⟨ji8, hji8⟩ : ∃ j_ : Int, (wrap64 (x6_1 - 1)) = j_ := ⟨_, rfl⟩
              replace H : (if 0 ≤ (ji8) then (if (ji8) < (l1.length : Int) then (if (rd l0 (ji5)) = (rd l1 (ji8)) then (diffmatchpatch_commonSuffixLength.l0 k1 l0 l1 ji5 ji8 (wrap64 (x7_1 + 1))) else (some x7_1)) else (none)) else (none)) = some r := by first | (rw [hji8] at H; exact H) | (simp only [hji8] at H ⊢; exact H)
              (try rw [hji8] at c4b0)
              have hji8w : (IntKind.i64.wrap (x6_1 - 1)) = ji8 := (i64_w _).trans hji8
              by_cases c9 : 0 ≤ (ji8)
              · rw [if_pos c9] at H
                have c9b0 : decide (0 ≤ (ji8)) = true := decide_eq_true c9
                clear c9
                by_cases c10 : (ji8) < (l1.length : Int)
                · rw [if_pos c10] at H
                  have c10b0 : decide ((ji8) < (l1.length : Int)) = true := decide_eq_true c10
                  clear c10
                  by_cases c11 : (rd l0 (ji5)) = (rd l1 (ji8))
                  · rw [if_pos c11] at H
                    have c11b0 : ((rd l0 (ji5)) == (rd l1 (ji8))) = true := beq_iff_eq.mpr c11
                    have c11b1 : ((rd l0 (ji5)) != (rd l1 (ji8))) = false := bne_eq_false_iff_eq.mpr c11
                    clear c11
                    have H' := Aside0.mk H
                    clear H
                    have p122 : 0 ≤ ((ji5) : Int) := of_decide_eq_true (by first | (with_reducible assumption) | assumption)
                    have q122 : (ji5) < (l0.length : Int) := of_decide_eq_true (by first | (with_reducible assumption) | assumption)
                    obtain ⟨ad122, e122, hx122_0⟩ := Kd.at_int HR0.out (ji5) p122 q122
                    cases e122
                    replace p122 := eq_true p122
                    replace q122 := eq_true q122
                    have p123 : 0 ≤ ((ji8) : Int) := of_decide_eq_true (by first | (with_reducible assumption) | assumption)
                    have q123 : (ji8) < (l1.length : Int) := of_decide_eq_true (by first | (with_reducible assumption) | assumption)
                    obtain ⟨ad123, e123, hx123_0⟩ := Kd.at_int HR1.out (ji8) p123 q123
                    cases e123
                    replace p123 := eq_true p123
                    replace q123 := eq_true q123
                    go_wp2
                    repeat (go_quiet (fail); try go_wp2)
                    go_roundg k1
                    case measure => have := HK1.out; omega
                    case rel => exact ⟨(ji5), (ji8), (wrap64 (x7_1 + 1)), (by first | rfl | (simp; done) | (simp only [← hji5] <;> (first | rfl | simp)) | (simp [*]; done)), (by first | rfl | (simp; done) | (simp only [← hji8] <;> (first | rfl | simp)) | (simp [*]; done)), (by first | rfl | (simp; done) | (simp [*]; done)), H', ⟨by have := HK1.out; omega⟩, by repeat (first | exact Drawn0.refl _ | apply Drawn0.step)⟩
                  · rw [if_neg c11] at H
                    have c11b0 : ((rd l0 (ji5)) == (rd l1 (ji8))) = false := beq_eq_false_iff_ne.mpr c11
                    have c11b1 : ((rd l0 (ji5)) != (rd l1 (ji8))) = true := bne_iff_ne.mpr c11
                    obtain rfl := Option.some.inj H
                    have p122 : 0 ≤ ((ji5) : Int) := of_decide_eq_true (by first | (with_reducible assumption) | assumption)
                    have q122 : (ji5) < (l0.length : Int) := of_decide_eq_true (by first | (with_reducible assumption) | assumption)
                    obtain ⟨ad122, e122, hx122_0⟩ := Kd.at_int HR0.out (ji5) p122 q122
                    cases e122
                    replace p122 := eq_true p122
                    replace q122 := eq_true q122
                    have p123 : 0 ≤ ((ji8) : Int) := of_decide_eq_true (by first | (with_reducible assumption) | assumption)
                    have q123 : (ji8) < (l1.length : Int) := of_decide_eq_true (by first | (with_reducible assumption) | assumption)
                    obtain ⟨ad123, e123, hx123_0⟩ := Kd.at_int HR1.out (ji8) p123 q123
                    cases e123
                    replace p123 := eq_true p123
                    replace q123 := eq_true q123
                    go_wp2
                    repeat (go_quiet (fail); try go_wp2)
                    go_ret
                    exact ⟨by first | rfl | (simp; done) | (simp only [← hji5, ← hji8] <;> (first | rfl | simp)) | (simp [*]; done), by repeat (first | exact Drawn0.refl _ | apply Drawn0.step)⟩
                · rw [if_neg c10] at H
                  exact absurd H (by simp)
              · rw [if_neg c9] at H
                exact absurd H (by simp)
            · rw [if_neg c7] at H
              exact absurd H (by simp)
          · rw [if_neg c6] at H
            exact absurd H (by simp)

/-! ### diffmatchpatch_DiffMatchPatch_DiffCommonSuffix: function 37 -/
def diffmatchpatch_DiffMatchPatch_DiffCommonSuffix.f (k : Nat)  (a1 : ByteArray) (a2 : ByteArray) : Option (Int) := if (runesI a1).length ≤ 70368744177664 then (if (runesI a2).length ≤ 70368744177664 then ((diffmatchpatch_commonSuffixLength.f k (runesI a1) (runesI a2)).bind fun t130 => (some t130)) else (none)) else (none)
theorem diffmatchpatch_DiffMatchPatch_DiffCommonSuffix.mono : ∀ a0 a1 k, LeO (diffmatchpatch_DiffMatchPatch_DiffCommonSuffix.f k a0 a1) (diffmatchpatch_DiffMatchPatch_DiffCommonSuffix.f (k + 1) a0 a1) := by
  intro a0 a1 k
  unfold diffmatchpatch_DiffMatchPatch_DiffCommonSuffix.f
  repeat' first
      | (with_reducible exact diffmatchpatch_commonSuffixLength.mono _ _ _)
      | (with_reducible exact LeO.refl _)
      | (with_reducible exact LeO.none _)
      | (with_reducible refine LeO.ite ?_ ?_)
      | (with_reducible refine LeO.bind ?_ (fun _ => ?_))
      | exact diffmatchpatch_commonSuffixLength.mono _ _ _
      | exact LeO.none _
      | refine LeO.ite ?_ ?_
      | refine LeO.bind ?_ (fun _ => ?_)
set_option maxHeartbeats 8000000 in
set_option maxRecDepth 100000 in
theorem diffmatchpatch_DiffMatchPatch_DiffCommonSuffix.calls (k : Nat) (p0_ : Value) (a1 : ByteArray) (a2 : ByteArray) (r : Int) (w : World) (h : diffmatchpatch_DiffMatchPatch_DiffCommonSuffix.f k a1 a2 = some r) :
    Calls Tryd.prog 37 #[p0_, .string a1, .string a2] w fun e w' => e = .returned (.int .i64 r) ∧ Below w.heap.size w w' := by
  have HB := Aside0.mk (Below.refl w.heap.size w)
  have H : (if (runesI a1).length ≤ 70368744177664 then (if (runesI a2).length ≤ 70368744177664 then ((diffmatchpatch_commonSuffixLength.f k (runesI a1) (runesI a2)).bind fun t130 => (some t130)) else (none)) else (none)) = some r := h
  clear h
  by_cases c4 : (runesI a1).length ≤ 70368744177664
  · rw [if_pos c4] at H
    have c4b0 := eq_true c4
    have c4b1 : decide ((runesI a1).length ≤ 70368744177664) = true := decide_eq_true c4
    clear c4
    obtain ⟨y124, hy124⟩ : ∃ y_ : List Int, y_ = (runesI a1) := ⟨_, rfl⟩
    replace H : (if (runesI a2).length ≤ 70368744177664 then ((diffmatchpatch_commonSuffixLength.f k y124 (runesI a2)).bind fun t130 => (some t130)) else (none)) = some r := by first | (rw [hy124]; with_reducible exact H) | (have H2_ := (Option.bind_some _ _).symm.trans H; rw [hy124]; with_reducible exact H2_) | (have H2_ := (Option.bind_some _ _).symm.trans H; with_reducible exact H2_) | with_reducible exact H | (rw [hy124]; exact H) | exact H
    have Ny124 := Aside0.mk hy124
    clear hy124
    by_cases c5 : (runesI a2).length ≤ 70368744177664
    · rw [if_pos c5] at H
      have c5b0 := eq_true c5
      have c5b1 : decide ((runesI a2).length ≤ 70368744177664) = true := decide_eq_true c5
      clear c5
      obtain ⟨y127, hy127⟩ : ∃ y_ : List Int, y_ = (runesI a2) := ⟨_, rfl⟩
      replace H : ((diffmatchpatch_commonSuffixLength.f k y124 y127).bind fun t130 => (some t130)) = some r := by first | (rw [hy127]; with_reducible exact H) | (have H2_ := (Option.bind_some _ _).symm.trans H; rw [hy127]; with_reducible exact H2_) | (have H2_ := (Option.bind_some _ _).symm.trans H; with_reducible exact H2_) | with_reducible exact H | (rw [hy127]; exact H) | exact H
      have Ny127 := Aside0.mk hy127
      clear hy127
      replace H := Option.bind_eq_some_iff.mp H
      obtain ⟨t130, A60, H⟩ := H
      replace H : (some t130) = some r := H
      have A6 := Aside0.mk A60
      clear A60
      obtain rfl := Option.some.inj H
      go_enter Tryd.func37, Tryd.ntmps37
      go_wp2_with (first | ((with_reducible refine gate_dst (N := 8) rfl ?_); refine Kd.R_runes _ 21 rfl (N := 8) rfl 9 45 _ rfl a1 rfl Tryd.underlying9 Tryd.underlying45 Tryd.underlying21 info21 (ok := fun _ => True) (okp := fun _ => True) (fun _ hk => hk) trivial (of_decide_eq_true (by first | (with_reducible assumption) | assumption)) (Below.refl _ _) (Nat.le_refl _) ?_; intro v125 w7 ho8 hb hg_ hnew_; clear hg_ hnew_; (first | rw [← Ny124.out] at ho8 | (simp only [Int.reduceToNat] at ho8; rw [← Ny124.out] at ho8)); have n0_ := Aside0.mk (Kd.R_lower ho8 (below_size (by repeat (first | (with_reducible first | exact HB.out | apply below_alloc | apply pw_below_drewN | apply below_drew1) | exact HB.out)))); have n1_ := Aside0.mk (below_step (by repeat (first | (with_reducible first | exact HB.out | apply below_alloc | apply pw_below_drewN | apply below_drew1) | exact HB.out)) hb); clear HB; have HO126 := n0_; have HB := n1_; clear n0_ n1_; clear hb ho8) | ((with_reducible refine gate_dst (N := 10) rfl ?_); refine Kd.R_runes _ 21 rfl (N := 10) rfl 9 45 _ rfl a2 rfl Tryd.underlying9 Tryd.underlying45 Tryd.underlying21 info21 (ok := fun _ => True) (okp := fun _ => True) (fun _ hk => hk) trivial (of_decide_eq_true (by first | (with_reducible assumption) | assumption)) (Below.refl _ _) (Nat.le_refl _) ?_; intro v128 w9 ho10 hb hg_ hnew_; clear hg_ hnew_; (first | rw [← Ny127.out] at ho10 | (simp only [Int.reduceToNat] at ho10; rw [← Ny127.out] at ho10)); have n0_ := Aside0.mk (Kd.R_elder' (by (with_reducible repeat (first | apply Kd.R_alloc | apply Kd.R_drewN | apply Kd.R_drew)); exact HO126.out) (Kd.R_base ho10) hb); have n1_ := Aside0.mk (Kd.R_lower (Kd.R_new' ho10 (Kd.R_lt (by (with_reducible repeat (first | apply Kd.R_alloc | apply Kd.R_drewN | apply Kd.R_drew)); exact HO126.out))) (below_size (by repeat (first | (with_reducible first | exact HB.out | apply below_alloc | apply pw_below_drewN | apply below_drew1) | exact HB.out)))); have n2_ := Aside0.mk (below_step (by repeat (first | (with_reducible first | exact HB.out | apply below_alloc | apply pw_below_drewN | apply below_drew1) | exact HB.out)) hb); clear HO126; clear HB; have HO126 := n0_; have HO129 := n1_; have HB := n2_; clear n0_ n1_ n2_; clear hb ho10; obtain ⟨Ao11, co11, eo11⟩ := Kd.R_slice HO126.out; subst eo11; obtain ⟨Ao12, co12, eo12⟩ := Kd.R_slice HO129.out; subst eo12) | ((with_reducible refine gate_callee (f := 54) rfl ?_); refine goesL_ (some 11) rfl rfl Tryd.func54 (by kernel_rfl) rfl #[.slice Ao11 y124.length co11, .slice Ao12 y127.length co12] rfl (by (try simp only [List.map_toArray, List.map_cons, List.map_nil]); first | done | rfl | (simp only [List.length_drop, List.length_take]; rfl)) ?_; (with_reducible refine (diffmatchpatch_commonSuffixLength.calls k _ _ y124 _ _ y127 t130 _ ?side1 ?side2 ?side3 ?side4 A6.out).mono ?_); (case side1 => repeat (first | exact (Kd.R_reads' HO126.out).2.2 | (with_reducible refine Kd.C_alloc ?_ _) | (with_reducible refine Kd.C_drewN ?_ _) | (with_reducible refine Kd.C_drew ?_))); (case side2 => exact (Kd.R_reads' HO126.out).2.1); (case side3 => repeat (first | exact (Kd.R_reads' HO129.out).2.2 | (with_reducible refine Kd.C_alloc ?_ _) | (with_reducible refine Kd.C_drewN ?_ _) | (with_reducible refine Kd.C_drew ?_))); (case side4 => exact (Kd.R_reads' HO129.out).2.1); rintro e w' ⟨rfl, ⟨nd, rfl⟩⟩; refine ⟨_, rfl, ?_⟩))
      go_ret
      exact ⟨by first | rfl | (simp [errW_none, errW_some] <;> rfl) | (simp [*, errW_none, errW_some] <;> rfl), by repeat (first | (with_reducible first | exact HB.out | apply below_alloc | apply pw_below_drewN | apply below_drew1) | exact HB.out)⟩
    · rw [if_neg c5] at H
      exact absurd H (by simp)
  · rw [if_neg c4] at H
    exact absurd H (by simp)

/-! ### impl_Suffix: function 14 -/
def impl_Suffix.f (k : Nat) (a0 : ByteArray) (a1 : ByteArray) : Option (Int) := (impl_plain.f).bind fun _ => ((diffmatchpatch_DiffMatchPatch_DiffCommonSuffix.f k a0 a1).bind fun t132 => (some t132))
theorem impl_Suffix.mono : ∀ a0 a1 k, LeO (impl_Suffix.f k a0 a1) (impl_Suffix.f (k + 1) a0 a1) := by
  intro a0 a1 k
  unfold impl_Suffix.f
  repeat' first
      | (with_reducible exact diffmatchpatch_DiffMatchPatch_DiffCommonSuffix.mono _ _ _)
      | (with_reducible exact LeO.refl _)
      | (with_reducible exact LeO.none _)
      | (with_reducible refine LeO.ite ?_ ?_)
      | (with_reducible refine LeO.bind ?_ (fun _ => ?_))
      | exact diffmatchpatch_DiffMatchPatch_DiffCommonSuffix.mono _ _ _
      | exact LeO.none _
      | refine LeO.ite ?_ ?_
      | refine LeO.bind ?_ (fun _ => ?_)
set_option maxHeartbeats 8000000 in
set_option maxRecDepth 100000 in
theorem impl_Suffix.calls (k : Nat) (a0 : ByteArray) (a1 : ByteArray) (r : Int) (w : World) (h : impl_Suffix.f k a0 a1 = some r) :
    Calls Tryd.prog 14 #[.string a0, .string a1] w fun e w' => e = .returned (.int .i64 r) ∧ Below w.heap.size w w' := by
  have HB := Aside0.mk (Below.refl w.heap.size w)
  have H : ((impl_plain.f).bind fun _ => ((diffmatchpatch_DiffMatchPatch_DiffCommonSuffix.f k a0 a1).bind fun t132 => (some t132))) = some r := h
  clear h
  replace H := Option.bind_eq_some_iff.mp H
  obtain ⟨_, A30, H⟩ := H
  replace H : ((diffmatchpatch_DiffMatchPatch_DiffCommonSuffix.f k a0 a1).bind fun t132 => (some t132)) = some r := H
  have A3 := Aside0.mk A30
  clear A30
  replace H := Option.bind_eq_some_iff.mp H
  obtain ⟨t132, A40, H⟩ := H
  replace H : (some t132) = some r := H
  have A4 := Aside0.mk A40
  clear A40
  obtain rfl := Option.some.inj H
  go_enter Tryd.func14, Tryd.ntmps14
  go_wp2_with (first | ((with_reducible refine gate_callee (f := 35) rfl ?_); refine goesL_ (some 5) rfl rfl Tryd.func35 (by kernel_rfl) rfl #[] rfl (by (try simp only [List.map_toArray, List.map_cons, List.map_nil]); first | done | rfl | (simp only [List.length_drop, List.length_take]; rfl)) ?_; (with_reducible refine (impl_plain.calls   _ A3.out).mono ?_); rintro e w5 ⟨v131, rfl, hb⟩; refine ⟨_, rfl, ?_⟩; have n0_ := Aside0.mk (below_step (by repeat (first | (with_reducible first | exact HB.out | apply below_alloc | apply pw_below_drewN | apply below_drew1) | exact HB.out)) hb); clear HB; have HB := n0_; clear n0_; (try clear hb); (try clear hb2); (try clear hk); (try clear hi)) | ((with_reducible refine gate_callee (f := 37) rfl ?_); refine goesL_ (some 8) rfl rfl Tryd.func37 (by kernel_rfl) rfl #[v131, .string a0, .string a1] rfl (by (try simp only [List.map_toArray, List.map_cons, List.map_nil]); first | done | rfl | (simp only [List.length_drop, List.length_take]; rfl)) ?_; (with_reducible refine (diffmatchpatch_DiffMatchPatch_DiffCommonSuffix.calls k v131 a0 a1 t132 _ A4.out).mono ?_); rintro e w6 ⟨rfl, hb⟩; refine ⟨_, rfl, ?_⟩; have n0_ := Aside0.mk (below_step (by repeat (first | (with_reducible first | exact HB.out | apply below_alloc | apply pw_below_drewN | apply below_drew1) | exact HB.out)) hb); clear HB; have HB := n0_; clear n0_; (try clear hb); (try clear hb2); (try clear hk); (try clear hi)))
  go_ret
  exact ⟨by first | rfl | (simp [errW_none, errW_some] <;> rfl) | (simp [*, errW_none, errW_some] <;> rfl), by repeat (first | (with_reducible first | exact HB.out | apply below_alloc | apply pw_below_drewN | apply below_drew1) | exact HB.out)⟩

end Go.Proofs.YtmdgnglgabnhnaaDoor.P
