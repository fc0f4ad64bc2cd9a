-- Written by a program of this session (wip/tools): the printer's text for functions of the seat Ytmdgnglgabnhnaa. Not trusted: Lean checks it.
import Derived.Test.YtmdgnglgabnhnaaPx0
import Derived.Test.YtmdgnglgabnhnaaXAlpha
namespace Go.Proofs.Ytmdgnglgabnhnaa.P
open Go.RowKit Go.Proofs.YtmdgnglgabnhnaaW.PrintWords Go.Proofs.YtmdgnglgabnhnaaW.PrintLast Go.Proofs.YtmdgnglgabnhnaaW.PrintMore
attribute [local go_sem] max2_int min2_int max_two min_two max_three min_three max_four min_four   -- for this text's walks alone
open Go.Proofs.YtmdgnglgabnhnaaX
set_option linter.unusedVariables false
set_option linter.unusedSimpArgs false

/-! ### spec_PatchMask: function 6 -/
def spec_PatchMask.l0 : Nat → ByteArray → Int → Int → Int → Int → Option (Int)
  | 0, _, _, _, _, _ => none
  | k + 1, x0, x1, x5, x8, x9 => if x9 < x8 then (if 0 ≤ x9 then (if x9 < (x0.size : Int) then (if (bt x0 x9) = x1 then (spec_PatchMask.l0 k x0 x1 (Go.bits .or .i64 (wrap64 (x5 * 2)) 1) x8 (wrap64 (x9 + 1))) else (spec_PatchMask.l0 k x0 x1 (wrap64 (x5 * 2)) x8 (wrap64 (x9 + 1)))) else (none)) else (none)) else (some x5)
def spec_PatchMask.f (k : Nat) (a0 : ByteArray) (a1 : Int) : Option (Int) := spec_PatchMask.l0 k a0 a1 0 (a0.size : Int) 0
theorem spec_PatchMask.mono_l : ∀ k, (∀ y0 y1 y2 y3 y4, LeO (spec_PatchMask.l0 k y0 y1 y2 y3 y4) (spec_PatchMask.l0 (k + 1) y0 y1 y2 y3 y4))
  | 0 => fun _ _ _ _ _ r h => by simp [spec_PatchMask.l0] at h
  | k + 1 => by
    have ih0 := spec_PatchMask.mono_l k
    · intro y0 y1 y2 y3 y4
      unfold spec_PatchMask.l0
      repeat' first
      | (with_reducible exact ih0 _ _ _ _ _)
      | (with_reducible exact LeO.refl _)
      | (with_reducible exact LeO.none _)
      | (with_reducible refine LeO.ite ?_ ?_)
      | (with_reducible refine LeO.bind ?_ (fun _ => ?_))
      | exact ih0 _ _ _ _ _
      | exact LeO.none _
      | refine LeO.ite ?_ ?_
      | refine LeO.bind ?_ (fun _ => ?_)
theorem spec_PatchMask.mono : ∀ a0 a1 k, LeO (spec_PatchMask.f k a0 a1) (spec_PatchMask.f (k + 1) a0 a1) := by
  intro a0 a1 k
  have ih0 := spec_PatchMask.mono_l k
  unfold spec_PatchMask.f
  repeat' first
      | (with_reducible exact ih0 _ _ _ _ _)
      | (with_reducible exact LeO.refl _)
      | (with_reducible exact LeO.none _)
      | (with_reducible refine LeO.ite ?_ ?_)
      | (with_reducible refine LeO.bind ?_ (fun _ => ?_))
      | exact ih0 _ _ _ _ _
      | exact LeO.none _
      | refine LeO.ite ?_ ?_
      | refine LeO.bind ?_ (fun _ => ?_)
set_option maxHeartbeats 8000000 in
set_option maxRecDepth 100000 in
theorem spec_PatchMask.calls (k : Nat) (a0 : ByteArray) (a1 : Int) (r : Int) (w : World) (h : spec_PatchMask.f k a0 a1 = some r) :
    Calls Try.prog 6 #[.string a0, .int .u8 a1] w fun e w' => e = .returned (.int .i64 r) ∧ Drawn0 w w' := by
  have H : (spec_PatchMask.l0 k a0 a1 0 (a0.size : Int) 0) = some r := h
  clear h
  have H' := Aside0.mk H
  clear H
  go_enter Try.func6, Try.ntmps6
  go_wp2
  go_loopg [5, 9] k (fun kq v5 v9 w' => ∃ (x5_1 : Int) (x9_1 : Int), v5 = .int .i64 x5_1 ∧ v9 = .int .i64 x9_1 ∧ Aside0 (spec_PatchMask.l0 kq a0 a1 x5_1 (a0.size : Int) x9_1 = some r) ∧ Aside0 (kq ≤ k) ∧ Drawn0 w w')
  case atStart => exact ⟨(0), (0), (by first | rfl | (simp; done) | (simp [*]; done)), (by first | rfl | (simp; done) | (simp [*]; done)), H', ⟨Nat.le_refl _⟩, by repeat (first | exact Drawn0.refl _ | apply Drawn0.step)⟩
  case round =>
    clear H'
    try clear p2
    obtain ⟨x5_1, x9_1, rfl, rfl, HA, HK1, ⟨m1, rfl⟩⟩ := hrel
    cases gk with
    | zero => exact absurd HA.out (by simp [spec_PatchMask.l0])
    | succ k1 =>
      have H := HA.out
      clear HA
      simp only [spec_PatchMask.l0] at H
      by_cases c3 : x9_1 < (a0.size : Int)
      · rw [if_pos c3] at H
        have c3b0 : decide (x9_1 < (a0.size : Int)) = true := decide_eq_true c3
        clear c3
        by_cases c4 : 0 ≤ x9_1
        · rw [if_pos c4] at H
          have c4b0 : decide (0 ≤ x9_1) = true := decide_eq_true c4
          clear c4
          by_cases c5 : x9_1 < (a0.size : Int)
          · rw [if_pos c5] at H
            have c5b0 : decide (x9_1 < (a0.size : Int)) = true := decide_eq_true c5
            clear c5
            by_cases c7 : (bt a0 x9_1) = a1
            · rw [if_pos c7] at H
              have c7b0 : ((bt a0 x9_1) == a1) = true := beq_iff_eq.mpr c7
              have c7b1 : ((bt a0 x9_1) != a1) = false := bne_eq_false_iff_eq.mpr c7
              clear c7
              have H' := Aside0.mk H
              clear H
              have p6 : 0 ≤ (x9_1 : Int) := of_decide_eq_true (by first | (with_reducible assumption) | assumption)
              have q6 : x9_1 < (a0.size : Int) := of_decide_eq_true (by first | (with_reducible assumption) | assumption)
              have hx6 := bt_at a0 x9_1
              replace p6 := eq_true p6
              replace q6 := eq_true q6
              go_wp2
              go_roundg k1
              case measure => have := HK1.out; omega
              case rel => exact ⟨(Go.bits .or .i64 (wrap64 (x5_1 * 2)) 1), (wrap64 (x9_1 + 1)), (by first | rfl | (simp; done) | (simp [*]; done)), (by first | rfl | (simp; done) | (simp [*]; done)), H', ⟨by have := HK1.out; omega⟩, by repeat (first | exact Drawn0.refl _ | apply Drawn0.step)⟩
            · rw [if_neg c7] at H
              have c7b0 : ((bt a0 x9_1) == a1) = false := beq_eq_false_iff_ne.mpr c7
              have c7b1 : ((bt a0 x9_1) != a1) = true := bne_iff_ne.mpr c7
              have H' := Aside0.mk H
              clear H
              have p6 : 0 ≤ (x9_1 : Int) := of_decide_eq_true (by first | (with_reducible assumption) | assumption)
              have q6 : x9_1 < (a0.size : Int) := of_decide_eq_true (by first | (with_reducible assumption) | assumption)
              have hx6 := bt_at a0 x9_1
              replace p6 := eq_true p6
              replace q6 := eq_true q6
              go_wp2
              go_roundg k1
              case measure => have := HK1.out; omega
              case rel => exact ⟨(wrap64 (x5_1 * 2)), (wrap64 (x9_1 + 1)), (by first | rfl | (simp; done) | (simp [*]; done)), (by first | rfl | (simp; done) | (simp [*]; done)), H', ⟨by have := HK1.out; omega⟩, by repeat (first | exact Drawn0.refl _ | apply Drawn0.step)⟩
          · rw [if_neg c5] at H
            exact absurd H (by simp)
        · rw [if_neg c4] at H
          exact absurd H (by simp)
      · rw [if_neg c3] at H
        have c3b0 : decide (x9_1 < (a0.size : Int)) = false := decide_eq_false c3
        clear c3
        obtain rfl := Option.some.inj H
        go_wp2
        go_ret
        exact ⟨by first | rfl | (simp; done) | (simp [*]; done), by repeat (first | exact Drawn0.refl _ | apply Drawn0.step)⟩

/-! ### laws_FnAlphabet: function 3 -/
mutual
def laws_FnAlphabet.l0 : Nat → ByteArray → Bool → List (S25) → Int → List (S25) → Int → Int → Option (Bool)
  | 0, _, _, _, _, _, _, _ => none
  | k + 1, x0, x3, x4, x5, x21, x22, x23 => if x23 < x22 then (if 0 ≤ x23 then (if x23 < (x21.length : Int) then (if ((rd_T25 x21 x23).f1) = 0 then (laws_FnAlphabet.j1 k x0 x3 x4 x5 x21 x22 x23 true ((rd_T25 x21 x23).f0) ((rd_T25 x21 x23).f1)) else ((spec_PatchMask.f k x0 ((rd_T25 x21 x23).f0)).bind fun t109 => (if ((rd_T25 x21 x23).f1) = t109 then (if x23 > 0 then (if 0 ≤ (wrap64 (x23 - 1)) then (if (wrap64 (x23 - 1)) < (x4.length : Int) then (laws_FnAlphabet.j1 k x0 x3 x4 x5 x21 x22 x23 (decide (((rd_T25 x4 (wrap64 (x23 - 1))).f0) ≥ ((rd_T25 x21 x23).f0))) ((rd_T25 x21 x23).f0) ((rd_T25 x21 x23).f1)) else (none)) else (none)) else (laws_FnAlphabet.j1 k x0 x3 x4 x5 x21 x22 x23 false ((rd_T25 x21 x23).f0) ((rd_T25 x21 x23).f1))) else (laws_FnAlphabet.j1 k x0 x3 x4 x5 x21 x22 x23 true ((rd_T25 x21 x23).f0) ((rd_T25 x21 x23).f1))))) else (none)) else (none)) else (if x5 = (x0.size : Int) then (some x3) else (some false))
def laws_FnAlphabet.j1 : Nat → ByteArray → Bool → List (S25) → Int → List (S25) → Int → Int → Bool → Int → Int → Option (Bool)
  | 0, _, _, _, _, _, _, _, _, _, _ => none
  | k + 1, x0, x3, x4, x5, x21, x22, x23, x54, x109000, x109001 => if x54 = true then (some false) else (laws_FnAlphabet.l1 k x0 x3 x4 x5 x21 x22 x23 (x0.size : Int) 0 x109000 x109001)
def laws_FnAlphabet.l1 : Nat → ByteArray → Bool → List (S25) → Int → List (S25) → Int → Int → Int → Int → Int → Int → Option (Bool)
  | 0, _, _, _, _, _, _, _, _, _, _, _ => none
  | k + 1, x0, x3, x4, x5, x21, x22, x23, x56, x57, x109000, x109001 => if x57 < x56 then (if 0 ≤ x57 then (if x57 < (x0.size : Int) then (if (bt x0 x57) = x109000 then (laws_FnAlphabet.l1 k x0 x3 x4 (wrap64 (x5 + 1)) x21 x22 x23 x56 (wrap64 (x57 + 1)) x109000 x109001) else (laws_FnAlphabet.l1 k x0 x3 x4 x5 x21 x22 x23 x56 (wrap64 (x57 + 1)) x109000 x109001)) else (none)) else (none)) else (laws_FnAlphabet.l0 k x0 x3 x4 x5 x21 x22 (wrap64 (x23 + 1)))
end
def laws_FnAlphabet.f (k : Nat) (a0 : ByteArray) : Option (Bool) := if (a0.size : Int) > 2147483647 then (some true) else ((impl_Alphabet.f (⟨#[97]⟩ : ByteArray)).bind fun t101 => (if (a0.size : Int) > 62 then (some ((t101.length : Int) == 1)) else ((impl_Alphabet.f a0).bind fun t104 => (laws_FnAlphabet.l0 k a0 ((t101.length : Int) == 1) t104 0 t104 (t104.length : Int) 0))))
theorem laws_FnAlphabet.mono_l : ∀ k, (∀ y0 y1 y2 y3 y4 y5 y6, LeO (laws_FnAlphabet.l0 k y0 y1 y2 y3 y4 y5 y6) (laws_FnAlphabet.l0 (k + 1) y0 y1 y2 y3 y4 y5 y6)) ∧ (∀ y0 y1 y2 y3 y4 y5 y6 y7 y8 y9, LeO (laws_FnAlphabet.j1 k y0 y1 y2 y3 y4 y5 y6 y7 y8 y9) (laws_FnAlphabet.j1 (k + 1) y0 y1 y2 y3 y4 y5 y6 y7 y8 y9)) ∧ (∀ y0 y1 y2 y3 y4 y5 y6 y7 y8 y9 y10, LeO (laws_FnAlphabet.l1 k y0 y1 y2 y3 y4 y5 y6 y7 y8 y9 y10) (laws_FnAlphabet.l1 (k + 1) y0 y1 y2 y3 y4 y5 y6 y7 y8 y9 y10))
  | 0 => ⟨fun _ _ _ _ _ _ _ r h => by simp [laws_FnAlphabet.l0] at h, fun _ _ _ _ _ _ _ _ _ _ r h => by simp [laws_FnAlphabet.j1] at h, fun _ _ _ _ _ _ _ _ _ _ _ r h => by simp [laws_FnAlphabet.l1] at h⟩
  | k + 1 => by
    obtain ⟨ih0, ih1, ih2⟩ := laws_FnAlphabet.mono_l k
    refine ⟨?_, ?_, ?_⟩
    · intro y0 y1 y2 y3 y4 y5 y6
      unfold laws_FnAlphabet.l0
      repeat' first
      | (with_reducible exact ih0 _ _ _ _ _ _ _)
      | (with_reducible exact ih1 _ _ _ _ _ _ _ _ _ _)
      | (with_reducible exact ih2 _ _ _ _ _ _ _ _ _ _ _)
      | (with_reducible exact spec_PatchMask.mono _ _ _)
      | (with_reducible exact LeO.refl _)
      | (with_reducible exact LeO.none _)
      | (with_reducible refine LeO.ite ?_ ?_)
      | (with_reducible refine LeO.bind ?_ (fun _ => ?_))
      | exact ih0 _ _ _ _ _ _ _
      | exact ih1 _ _ _ _ _ _ _ _ _ _
      | exact ih2 _ _ _ _ _ _ _ _ _ _ _
      | exact spec_PatchMask.mono _ _ _
      | exact LeO.none _
      | refine LeO.ite ?_ ?_
      | refine LeO.bind ?_ (fun _ => ?_)
    · intro y0 y1 y2 y3 y4 y5 y6 y7 y8 y9
      unfold laws_FnAlphabet.j1
      repeat' first
      | (with_reducible exact ih0 _ _ _ _ _ _ _)
      | (with_reducible exact ih1 _ _ _ _ _ _ _ _ _ _)
      | (with_reducible exact ih2 _ _ _ _ _ _ _ _ _ _ _)
      | (with_reducible exact spec_PatchMask.mono _ _ _)
      | (with_reducible exact LeO.refl _)
      | (with_reducible exact LeO.none _)
      | (with_reducible refine LeO.ite ?_ ?_)
      | (with_reducible refine LeO.bind ?_ (fun _ => ?_))
      | exact ih0 _ _ _ _ _ _ _
      | exact ih1 _ _ _ _ _ _ _ _ _ _
      | exact ih2 _ _ _ _ _ _ _ _ _ _ _
      | exact spec_PatchMask.mono _ _ _
      | exact LeO.none _
      | refine LeO.ite ?_ ?_
      | refine LeO.bind ?_ (fun _ => ?_)
    · intro y0 y1 y2 y3 y4 y5 y6 y7 y8 y9 y10
      unfold laws_FnAlphabet.l1
      repeat' first
      | (with_reducible exact ih0 _ _ _ _ _ _ _)
      | (with_reducible exact ih1 _ _ _ _ _ _ _ _ _ _)
      | (with_reducible exact ih2 _ _ _ _ _ _ _ _ _ _ _)
      | (with_reducible exact spec_PatchMask.mono _ _ _)
      | (with_reducible exact LeO.refl _)
      | (with_reducible exact LeO.none _)
      | (with_reducible refine LeO.ite ?_ ?_)
      | (with_reducible refine LeO.bind ?_ (fun _ => ?_))
      | exact ih0 _ _ _ _ _ _ _
      | exact ih1 _ _ _ _ _ _ _ _ _ _
      | exact ih2 _ _ _ _ _ _ _ _ _ _ _
      | exact spec_PatchMask.mono _ _ _
      | exact LeO.none _
      | refine LeO.ite ?_ ?_
      | refine LeO.bind ?_ (fun _ => ?_)
theorem laws_FnAlphabet.mono : ∀ a0 k, LeO (laws_FnAlphabet.f k a0) (laws_FnAlphabet.f (k + 1) a0) := by
  intro a0 k
  obtain ⟨ih0, ih1, ih2⟩ := laws_FnAlphabet.mono_l k
  unfold laws_FnAlphabet.f
  repeat' first
      | (with_reducible exact ih0 _ _ _ _ _ _ _)
      | (with_reducible exact ih1 _ _ _ _ _ _ _ _ _ _)
      | (with_reducible exact ih2 _ _ _ _ _ _ _ _ _ _ _)
      | (with_reducible exact spec_PatchMask.mono _ _ _)
      | (with_reducible exact LeO.refl _)
      | (with_reducible exact LeO.none _)
      | (with_reducible refine LeO.ite ?_ ?_)
      | (with_reducible refine LeO.bind ?_ (fun _ => ?_))
      | exact ih0 _ _ _ _ _ _ _
      | exact ih1 _ _ _ _ _ _ _ _ _ _
      | exact ih2 _ _ _ _ _ _ _ _ _ _ _
      | exact spec_PatchMask.mono _ _ _
      | exact LeO.none _
      | refine LeO.ite ?_ ?_
      | refine LeO.bind ?_ (fun _ => ?_)
set_option maxHeartbeats 8000000 in
set_option maxRecDepth 100000 in
theorem laws_FnAlphabet.calls (k : Nat) (a0 : ByteArray) (r : Bool) (w : World) (h : laws_FnAlphabet.f k a0 = some r) :
    Calls Try.prog 3 #[.string a0] w fun e w' => e = .returned (.bool r) ∧ Below w.heap.size w w' := by
  have hu25 := Try.underlying25
  have HB := Aside0.mk (Below.refl w.heap.size w)
  have H : (if (a0.size : Int) > 2147483647 then (some true) else ((impl_Alphabet.f (⟨#[97]⟩ : ByteArray)).bind fun t101 => (if (a0.size : Int) > 62 then (some ((t101.length : Int) == 1)) else ((impl_Alphabet.f a0).bind fun t104 => (laws_FnAlphabet.l0 k a0 ((t101.length : Int) == 1) t104 0 t104 (t104.length : Int) 0))))) = some r := h
  clear h
  by_cases c2 : (a0.size : Int) > 2147483647
  · rw [if_pos c2] at H
    have c2b0 : decide (2147483647 < (a0.size : Int)) = true := decide_eq_true c2
    have c2b1 : decide (2147483647 < a0.size) = true := decide_eq_true (by omega)
    clear c2
    obtain rfl := Option.some.inj H
    go_enter Try.func3, Try.ntmps3
    go_wp2
    repeat (go_quiet (fail); try go_wp2)
    go_ret
    exact ⟨by first | rfl | (simp [errW_none, errW_some] <;> rfl) | (simp [*, errW_none, errW_some] <;> rfl), by repeat (first | (with_reducible first | exact HB.out | apply below_alloc | apply pw_below_drewN | apply below_drew1) | exact HB.out)⟩
  · rw [if_neg c2] at H
    have c2b0 : decide (2147483647 < (a0.size : Int)) = false := decide_eq_false c2
    have c2b1 : decide (2147483647 < a0.size) = false := decide_eq_false (by omega)
    clear c2
    replace H := Option.bind_eq_some_iff.mp H
    obtain ⟨t101, A30, H⟩ := H
    replace H : (if (a0.size : Int) > 62 then (some ((t101.length : Int) == 1)) else ((impl_Alphabet.f a0).bind fun t104 => (laws_FnAlphabet.l0 k a0 ((t101.length : Int) == 1) t104 0 t104 (t104.length : Int) 0))) = some r := H
    have A3 := Aside0.mk A30
    clear A30
    by_cases c4 : (a0.size : Int) > 62
    · rw [if_pos c4] at H
      have c4b0 : decide (62 < (a0.size : Int)) = true := decide_eq_true c4
      have c4b1 : decide (62 < a0.size) = true := decide_eq_true (by omega)
      clear c4
      obtain rfl := Option.some.inj H
      go_enter Try.func3, Try.ntmps3
      go_wp2_with (first | (go_at_call 5; (with_reducible refine (impl_Alphabet.calls (⟨#[97]⟩ : ByteArray) t101 _ A3.out).mono ?_); rintro e w5 ⟨v102, rfl, ho0, hb⟩; have n0_ := Aside0.mk (Kd.R_lower ho0 (below_size (by repeat (first | (with_reducible first | exact HB.out | apply below_alloc | apply pw_below_drewN | apply below_drew1) | exact HB.out)))); have n1_ := Aside0.mk (below_step (by repeat (first | (with_reducible first | exact HB.out | apply below_alloc | apply pw_below_drewN | apply below_drew1) | exact HB.out)) hb); clear HB; have HO103 := n0_; have HB := n1_; clear n0_ n1_; (try clear hb); (try clear hb2); (try clear hk); (try clear hi); (try clear ho0); obtain ⟨Ao6, co6, eo6⟩ := Kd.R_slice HO103.out; subst eo6))
      repeat (go_quiet (first | (go_at_call 5; (with_reducible refine (impl_Alphabet.calls (⟨#[97]⟩ : ByteArray) t101 _ A3.out).mono ?_); rintro e w5 ⟨v102, rfl, ho0, hb⟩; have n0_ := Aside0.mk (Kd.R_lower ho0 (below_size (by repeat (first | (with_reducible first | exact HB.out | apply below_alloc | apply pw_below_drewN | apply below_drew1) | exact HB.out)))); have n1_ := Aside0.mk (below_step (by repeat (first | (with_reducible first | exact HB.out | apply below_alloc | apply pw_below_drewN | apply below_drew1) | exact HB.out)) hb); clear HB; have HO103 := n0_; have HB := n1_; clear n0_ n1_; (try clear hb); (try clear hb2); (try clear hk); (try clear hi); (try clear ho0); obtain ⟨Ao6, co6, eo6⟩ := Kd.R_slice HO103.out; subst eo6)); try go_wp2_with (first | (go_at_call 5; (with_reducible refine (impl_Alphabet.calls (⟨#[97]⟩ : ByteArray) t101 _ A3.out).mono ?_); rintro e w5 ⟨v102, rfl, ho0, hb⟩; have n0_ := Aside0.mk (Kd.R_lower ho0 (below_size (by repeat (first | (with_reducible first | exact HB.out | apply below_alloc | apply pw_below_drewN | apply below_drew1) | exact HB.out)))); have n1_ := Aside0.mk (below_step (by repeat (first | (with_reducible first | exact HB.out | apply below_alloc | apply pw_below_drewN | apply below_drew1) | exact HB.out)) hb); clear HB; have HO103 := n0_; have HB := n1_; clear n0_ n1_; (try clear hb); (try clear hb2); (try clear hk); (try clear hi); (try clear ho0); obtain ⟨Ao6, co6, eo6⟩ := Kd.R_slice HO103.out; subst eo6)))
      go_ret
      exact ⟨by first | rfl | (simp [errW_none, errW_some] <;> rfl) | (simp [*, errW_none, errW_some] <;> rfl), by repeat (first | (with_reducible first | exact HB.out | apply below_alloc | apply pw_below_drewN | apply below_drew1) | exact HB.out)⟩
    · rw [if_neg c4] at H
      have c4b0 : decide (62 < (a0.size : Int)) = false := decide_eq_false c4
      have c4b1 : decide (62 < a0.size) = false := decide_eq_false (by omega)
      clear c4
      replace H := Option.bind_eq_some_iff.mp H
      obtain ⟨t104, A70, H⟩ := H
      replace H : (laws_FnAlphabet.l0 k a0 ((t101.length : Int) == 1) t104 0 t104 (t104.length : Int) 0) = some r := H
      have A7 := Aside0.mk A70
      clear A70
      have H' := Aside0.mk H
      clear H
      go_enter Try.func3, Try.ntmps3
      go_wp2_with (first | (go_at_call 5; (with_reducible refine (impl_Alphabet.calls (⟨#[97]⟩ : ByteArray) t101 _ A3.out).mono ?_); rintro e w8 ⟨v102, rfl, ho0, hb⟩; have n0_ := Aside0.mk (Kd.R_lower ho0 (below_size (by repeat (first | (with_reducible first | exact HB.out | apply below_alloc | apply pw_below_drewN | apply below_drew1) | exact HB.out)))); have n1_ := Aside0.mk (below_step (by repeat (first | (with_reducible first | exact HB.out | apply below_alloc | apply pw_below_drewN | apply below_drew1) | exact HB.out)) hb); clear HB; have HO103 := n0_; have HB := n1_; clear n0_ n1_; (try clear hb); (try clear hb2); (try clear hk); (try clear hi); (try clear ho0); obtain ⟨Ao9, co9, eo9⟩ := Kd.R_slice HO103.out; subst eo9) | (go_at_call 5; (with_reducible refine (impl_Alphabet.calls a0 t104 _ A7.out).mono ?_); rintro e w10 ⟨v105, rfl, ho0, hb⟩; have n0_ := Aside0.mk (Kd.R_elder' (by (with_reducible repeat (first | apply Kd.R_alloc | apply Kd.R_drewN | apply Kd.R_drew)); exact HO103.out) (Kd.R_base ho0) hb); have n1_ := Aside0.mk (Kd.R_lower (Kd.R_new' ho0 (Kd.R_lt (by (with_reducible repeat (first | apply Kd.R_alloc | apply Kd.R_drewN | apply Kd.R_drew)); exact HO103.out))) (below_size (by repeat (first | (with_reducible first | exact HB.out | apply below_alloc | apply pw_below_drewN | apply below_drew1) | exact HB.out)))); have n2_ := Aside0.mk (below_step (by repeat (first | (with_reducible first | exact HB.out | apply below_alloc | apply pw_below_drewN | apply below_drew1) | exact HB.out)) hb); clear HO103; clear HB; have HO103 := n0_; have HO106 := n1_; have HB := n2_; clear n0_ n1_ n2_; (try clear hb); (try clear hb2); (try clear hk); (try clear hi); (try clear ho0); obtain ⟨Ao11, co11, eo11⟩ := Kd.R_slice HO106.out; subst eo11))
      repeat (go_quiet (first | (go_at_call 5; (with_reducible refine (impl_Alphabet.calls (⟨#[97]⟩ : ByteArray) t101 _ A3.out).mono ?_); rintro e w8 ⟨v102, rfl, ho0, hb⟩; have n0_ := Aside0.mk (Kd.R_lower ho0 (below_size (by repeat (first | (with_reducible first | exact HB.out | apply below_alloc | apply pw_below_drewN | apply below_drew1) | exact HB.out)))); have n1_ := Aside0.mk (below_step (by repeat (first | (with_reducible first | exact HB.out | apply below_alloc | apply pw_below_drewN | apply below_drew1) | exact HB.out)) hb); clear HB; have HO103 := n0_; have HB := n1_; clear n0_ n1_; (try clear hb); (try clear hb2); (try clear hk); (try clear hi); (try clear ho0); obtain ⟨Ao9, co9, eo9⟩ := Kd.R_slice HO103.out; subst eo9) | (go_at_call 5; (with_reducible refine (impl_Alphabet.calls a0 t104 _ A7.out).mono ?_); rintro e w10 ⟨v105, rfl, ho0, hb⟩; have n0_ := Aside0.mk (Kd.R_elder' (by (with_reducible repeat (first | apply Kd.R_alloc | apply Kd.R_drewN | apply Kd.R_drew)); exact HO103.out) (Kd.R_base ho0) hb); have n1_ := Aside0.mk (Kd.R_lower (Kd.R_new' ho0 (Kd.R_lt (by (with_reducible repeat (first | apply Kd.R_alloc | apply Kd.R_drewN | apply Kd.R_drew)); exact HO103.out))) (below_size (by repeat (first | (with_reducible first | exact HB.out | apply below_alloc | apply pw_below_drewN | apply below_drew1) | exact HB.out)))); have n2_ := Aside0.mk (below_step (by repeat (first | (with_reducible first | exact HB.out | apply below_alloc | apply pw_below_drewN | apply below_drew1) | exact HB.out)) hb); clear HO103; clear HB; have HO103 := n0_; have HO106 := n1_; have HB := n2_; clear n0_ n1_ n2_; (try clear hb); (try clear hb2); (try clear hk); (try clear hi); (try clear ho0); obtain ⟨Ao11, co11, eo11⟩ := Kd.R_slice HO106.out; subst eo11)); try go_wp2_with (first | (go_at_call 5; (with_reducible refine (impl_Alphabet.calls (⟨#[97]⟩ : ByteArray) t101 _ A3.out).mono ?_); rintro e w8 ⟨v102, rfl, ho0, hb⟩; have n0_ := Aside0.mk (Kd.R_lower ho0 (below_size (by repeat (first | (with_reducible first | exact HB.out | apply below_alloc | apply pw_below_drewN | apply below_drew1) | exact HB.out)))); have n1_ := Aside0.mk (below_step (by repeat (first | (with_reducible first | exact HB.out | apply below_alloc | apply pw_below_drewN | apply below_drew1) | exact HB.out)) hb); clear HB; have HO103 := n0_; have HB := n1_; clear n0_ n1_; (try clear hb); (try clear hb2); (try clear hk); (try clear hi); (try clear ho0); obtain ⟨Ao9, co9, eo9⟩ := Kd.R_slice HO103.out; subst eo9) | (go_at_call 5; (with_reducible refine (impl_Alphabet.calls a0 t104 _ A7.out).mono ?_); rintro e w10 ⟨v105, rfl, ho0, hb⟩; have n0_ := Aside0.mk (Kd.R_elder' (by (with_reducible repeat (first | apply Kd.R_alloc | apply Kd.R_drewN | apply Kd.R_drew)); exact HO103.out) (Kd.R_base ho0) hb); have n1_ := Aside0.mk (Kd.R_lower (Kd.R_new' ho0 (Kd.R_lt (by (with_reducible repeat (first | apply Kd.R_alloc | apply Kd.R_drewN | apply Kd.R_drew)); exact HO103.out))) (below_size (by repeat (first | (with_reducible first | exact HB.out | apply below_alloc | apply pw_below_drewN | apply below_drew1) | exact HB.out)))); have n2_ := Aside0.mk (below_step (by repeat (first | (with_reducible first | exact HB.out | apply below_alloc | apply pw_below_drewN | apply below_drew1) | exact HB.out)) hb); clear HO103; clear HB; have HO103 := n0_; have HO106 := n1_; have HB := n2_; clear n0_ n1_ n2_; (try clear hb); (try clear hb2); (try clear hk); (try clear hi); (try clear ho0); obtain ⟨Ao11, co11, eo11⟩ := Kd.R_slice HO106.out; subst eo11)))
      go_loopg [5, 23] k (fun kq v5 v23 w' => ∃ (x5_1 : Int) (x23_1 : Int), v5 = .int .i64 x5_1 ∧ v23 = .int .i64 x23_1 ∧ Aside0 (laws_FnAlphabet.l0 kq a0 ((t101.length : Int) == 1) t104 x5_1 t104 (t104.length : Int) x23_1 = some r) ∧ Aside0 (kq ≤ k) ∧ Aside0 (Kd.R k25 25 w' w.heap.size (fun _ => True) (.slice Ao11 t104.length co11) t104) ∧ Aside0 (Kd.R k25 25 w' w.heap.size (fun _ => True) (.slice Ao11 t104.length co11) t104) ∧ Aside0 (Below w.heap.size w w'))
      case atStart => exact ⟨(0), (0), (by first | rfl | (simp; done) | (simp [*]; done)), (by first | rfl | (simp; done) | (simp [*]; done)), H', ⟨Nat.le_refl _⟩, ⟨by (with_reducible repeat (first | apply Kd.R_alloc | apply Kd.R_drewN | apply Kd.R_drew)); exact Kd.R_mono HO106.out (fun _ hk => trivial)⟩, ⟨by (with_reducible repeat (first | apply Kd.R_alloc | apply Kd.R_drewN | apply Kd.R_drew)); exact Kd.R_mono HO106.out (fun _ hk => trivial)⟩, ⟨by repeat (first | (with_reducible first | exact HB.out | apply below_alloc | apply pw_below_drewN | apply below_drew1) | exact HB.out)⟩⟩
      case round =>
        clear H'
        try clear c2
        try clear c2b0
        try clear c2b1
        try clear p2
        try clear c3
        try clear c4
        try clear c4b0
        try clear c4b1
        obtain ⟨x5_1, x23_1, rfl, rfl, HA, HK1, HO_4, HO_21, HB⟩ := hrel
        cases gk with
        | zero => exact absurd HA.out (by simp [laws_FnAlphabet.l0])
        | succ k1 =>
          have H := HA.out
          clear HA
          simp only [laws_FnAlphabet.l0] at H
          by_cases c12 : x23_1 < (t104.length : Int)
          · rw [if_pos c12] at H
            have c12b0 : decide (x23_1 < (t104.length : Int)) = true := decide_eq_true c12
            clear c12
            by_cases c13 : 0 ≤ x23_1
            · rw [if_pos c13] at H
              have c13b0 : decide (0 ≤ x23_1) = true := decide_eq_true c13
              clear c13
              by_cases c14 : x23_1 < (t104.length : Int)
              · rw [if_pos c14] at H
                have c14b0 : decide (x23_1 < (t104.length : Int)) = true := decide_eq_true c14
                clear c14
                have HC15 := Aside0.mk H
                clear H
                have p107 : 0 ≤ (x23_1 : Int) := of_decide_eq_true (by first | (with_reducible assumption) | assumption)
                have q107 : x23_1 < (t104.length : Int) := of_decide_eq_true (by first | (with_reducible assumption) | assumption)
                obtain ⟨ad107, e107, hx107_0, hx107_1⟩ := at_T25 (Kd.R_reads' HO_21.out).2.2 x23_1 p107 q107
                cases e107
                replace p107 := eq_true p107
                replace q107 := eq_true q107
                go_upto_region 11 with (first | ((with_reducible refine gate_dst (N := 7) rfl ?_); refine box_event ?hg (N := 7) ?hd (cs := #[.int .u8 0, .int .i64 0]) (t := 25) ?hr ?_; (case hd => rfl); (case hg => rfl); (case hr => first | (go_simp; done) | (go_simp; rfl)); intro gb108 hg w16 hbox hb; have n0_ := Aside0.mk (Kd.R_below (Kd.R_elderB (by (with_reducible repeat (first | apply Kd.R_alloc | apply Kd.R_drewN | apply Kd.R_drew)); exact HO_4.out) gb108 (Nat.le_of_eq hg.symm)) hb); have n1_ := Aside0.mk (Kd.R_ne_gb (by (with_reducible repeat (first | apply Kd.R_alloc | apply Kd.R_drewN | apply Kd.R_drew)); exact HO_4.out) hg); have n2_ := Aside0.mk (Kd.R_below (Kd.R_elderB (by (with_reducible repeat (first | apply Kd.R_alloc | apply Kd.R_drewN | apply Kd.R_drew)); exact HO_21.out) gb108 (Nat.le_of_eq hg.symm)) hb); have n3_ := Aside0.mk (Kd.R_ne_gb (by (with_reducible repeat (first | apply Kd.R_alloc | apply Kd.R_drewN | apply Kd.R_drew)); exact HO_21.out) hg); have n4_ := Aside0.mk (below_step (by repeat (first | (with_reducible first | exact HB.out | apply below_alloc | apply pw_below_drewN | apply below_drew1) | exact HB.out)) hb); have n5_ := Aside0.mk (hbox); have n6_ := Aside0.mk ((by rw [hg]; exact (below_size (by repeat (first | (with_reducible first | exact HB.out | apply below_alloc | apply pw_below_drewN | apply below_drew1) | exact HB.out))) : w.heap.size ≤ gb108)); have n7_ := Aside0.mk ((by rw [hg]; exact (below_size (by repeat (first | (with_reducible first | exact HB.out | apply below_alloc | apply pw_below_drewN | apply below_drew1) | exact HB.out))) : w.heap.size ≤ gb108)); clear HO_4; clear HO_21; clear HB; have HO_4 := n0_; have XN108_HO_4 := n1_; have HO_21 := n2_; have XN108_HO_21 := n3_; have HB := n4_; have BK108 := n5_; have GW108 := n6_; have GE108 := n7_; clear n0_ n1_ n2_ n3_ n4_ n5_ n6_ n7_; clear hb hbox hg; have hcz17_0 : w16.cell? ⟨gb108, 0, none⟩ = some (.int .u8 0) := (blk_cell BK108.out 0).trans rfl; have hcz17_1 : w16.cell? ⟨gb108, 1, none⟩ = some (.int .i64 0) := (blk_cell BK108.out 1).trans rfl; have hfz17_0 := blk_frozen BK108.out 0; have hfz17_1 := blk_frozen BK108.out 1))
                repeat (go_quiet (first | ((with_reducible refine gate_dst (N := 7) rfl ?_); refine box_event ?hg (N := 7) ?hd (cs := #[.int .u8 0, .int .i64 0]) (t := 25) ?hr ?_; (case hd => rfl); (case hg => rfl); (case hr => first | (go_simp; done) | (go_simp; rfl)); intro gb108 hg w16 hbox hb; have n0_ := Aside0.mk (Kd.R_below (Kd.R_elderB (by (with_reducible repeat (first | apply Kd.R_alloc | apply Kd.R_drewN | apply Kd.R_drew)); exact HO_4.out) gb108 (Nat.le_of_eq hg.symm)) hb); have n1_ := Aside0.mk (Kd.R_ne_gb (by (with_reducible repeat (first | apply Kd.R_alloc | apply Kd.R_drewN | apply Kd.R_drew)); exact HO_4.out) hg); have n2_ := Aside0.mk (Kd.R_below (Kd.R_elderB (by (with_reducible repeat (first | apply Kd.R_alloc | apply Kd.R_drewN | apply Kd.R_drew)); exact HO_21.out) gb108 (Nat.le_of_eq hg.symm)) hb); have n3_ := Aside0.mk (Kd.R_ne_gb (by (with_reducible repeat (first | apply Kd.R_alloc | apply Kd.R_drewN | apply Kd.R_drew)); exact HO_21.out) hg); have n4_ := Aside0.mk (below_step (by repeat (first | (with_reducible first | exact HB.out | apply below_alloc | apply pw_below_drewN | apply below_drew1) | exact HB.out)) hb); have n5_ := Aside0.mk (hbox); have n6_ := Aside0.mk ((by rw [hg]; exact (below_size (by repeat (first | (with_reducible first | exact HB.out | apply below_alloc | apply pw_below_drewN | apply below_drew1) | exact HB.out))) : w.heap.size ≤ gb108)); have n7_ := Aside0.mk ((by rw [hg]; exact (below_size (by repeat (first | (with_reducible first | exact HB.out | apply below_alloc | apply pw_below_drewN | apply below_drew1) | exact HB.out))) : w.heap.size ≤ gb108)); clear HO_4; clear HO_21; clear HB; have HO_4 := n0_; have XN108_HO_4 := n1_; have HO_21 := n2_; have XN108_HO_21 := n3_; have HB := n4_; have BK108 := n5_; have GW108 := n6_; have GE108 := n7_; clear n0_ n1_ n2_ n3_ n4_ n5_ n6_ n7_; clear hb hbox hg; have hcz17_0 : w16.cell? ⟨gb108, 0, none⟩ = some (.int .u8 0) := (blk_cell BK108.out 0).trans rfl; have hcz17_1 : w16.cell? ⟨gb108, 1, none⟩ = some (.int .i64 0) := (blk_cell BK108.out 1).trans rfl; have hfz17_0 := blk_frozen BK108.out 0; have hfz17_1 := blk_frozen BK108.out 1)); go_upto_region 11 with (first | ((with_reducible refine gate_dst (N := 7) rfl ?_); refine box_event ?hg (N := 7) ?hd (cs := #[.int .u8 0, .int .i64 0]) (t := 25) ?hr ?_; (case hd => rfl); (case hg => rfl); (case hr => first | (go_simp; done) | (go_simp; rfl)); intro gb108 hg w16 hbox hb; have n0_ := Aside0.mk (Kd.R_below (Kd.R_elderB (by (with_reducible repeat (first | apply Kd.R_alloc | apply Kd.R_drewN | apply Kd.R_drew)); exact HO_4.out) gb108 (Nat.le_of_eq hg.symm)) hb); have n1_ := Aside0.mk (Kd.R_ne_gb (by (with_reducible repeat (first | apply Kd.R_alloc | apply Kd.R_drewN | apply Kd.R_drew)); exact HO_4.out) hg); have n2_ := Aside0.mk (Kd.R_below (Kd.R_elderB (by (with_reducible repeat (first | apply Kd.R_alloc | apply Kd.R_drewN | apply Kd.R_drew)); exact HO_21.out) gb108 (Nat.le_of_eq hg.symm)) hb); have n3_ := Aside0.mk (Kd.R_ne_gb (by (with_reducible repeat (first | apply Kd.R_alloc | apply Kd.R_drewN | apply Kd.R_drew)); exact HO_21.out) hg); have n4_ := Aside0.mk (below_step (by repeat (first | (with_reducible first | exact HB.out | apply below_alloc | apply pw_below_drewN | apply below_drew1) | exact HB.out)) hb); have n5_ := Aside0.mk (hbox); have n6_ := Aside0.mk ((by rw [hg]; exact (below_size (by repeat (first | (with_reducible first | exact HB.out | apply below_alloc | apply pw_below_drewN | apply below_drew1) | exact HB.out))) : w.heap.size ≤ gb108)); have n7_ := Aside0.mk ((by rw [hg]; exact (below_size (by repeat (first | (with_reducible first | exact HB.out | apply below_alloc | apply pw_below_drewN | apply below_drew1) | exact HB.out))) : w.heap.size ≤ gb108)); clear HO_4; clear HO_21; clear HB; have HO_4 := n0_; have XN108_HO_4 := n1_; have HO_21 := n2_; have XN108_HO_21 := n3_; have HB := n4_; have BK108 := n5_; have GW108 := n6_; have GE108 := n7_; clear n0_ n1_ n2_ n3_ n4_ n5_ n6_ n7_; clear hb hbox hg; have hcz17_0 : w16.cell? ⟨gb108, 0, none⟩ = some (.int .u8 0) := (blk_cell BK108.out 0).trans rfl; have hcz17_1 : w16.cell? ⟨gb108, 1, none⟩ = some (.int .i64 0) := (blk_cell BK108.out 1).trans rfl; have hfz17_0 := blk_frozen BK108.out 0; have hfz17_1 := blk_frozen BK108.out 1)))
                (try simp only [Act.put, List.setIfInBounds_toArray, List.set_cons_zero, List.set_cons_succ])
                go_cut [54] (fun v54 wc => ∃ (kq : Nat) (x54_14 : Bool), v54 = .bool x54_14 ∧ Aside0 (laws_FnAlphabet.j1 kq a0 ((t101.length : Int) == 1) t104 x5_1 t104 (t104.length : Int) x23_1 x54_14 ((rd_T25 t104 x23_1).f0) ((rd_T25 t104 x23_1).f1) = some r) ∧ Aside0 (kq ≤ k1) ∧ Aside0 (Kd.R k25 25 wc w.heap.size (fun k_ => k_ ≠ gb108) (.slice (some ad107) t104.length co11) t104) ∧ Aside0 (Kd.R k25 25 wc w.heap.size (fun k_ => k_ ≠ gb108) (.slice (some ad107) t104.length co11) t104) ∧ Aside0 (wc.heap[gb108]? = some (.cells #[.int .u8 ((rd_T25 t104 x23_1).f0), .int .i64 ((rd_T25 t104 x23_1).f1)] 25 (0, 0))) ∧ Aside0 (Below w.heap.size w wc))
                case first =>
                  have H := HC15.out
                  clear HC15
                  by_cases c18 : ((rd_T25 t104 x23_1).f1) = 0
                  · rw [if_pos c18] at H
                    have c18b0 : (((rd_T25 t104 x23_1).f1) == 0) = true := beq_iff_eq.mpr c18
                    have c18b1 : (((rd_T25 t104 x23_1).f1) != 0) = false := bne_eq_false_iff_eq.mpr c18
                    clear c18
                    (first | rw [c18b0] | (simp only [i64_w, i32_w]; rw [c18b0]) | rw [c18b1] | skip)
                    have H' := Aside0.mk H
                    clear H
                    have hcz19_0 : w16.cell? ⟨gb108, 0, none⟩ = some (.int .u8 0) := (blk_cell BK108.out 0).trans rfl
                    have hcz19_1 : w16.cell? ⟨gb108, 1, none⟩ = some (.int .i64 0) := (blk_cell BK108.out 1).trans rfl
                    have hfz19_0 := blk_frozen BK108.out 0
                    have hfz19_1 := blk_frozen BK108.out 1
                    go_wp2
                    repeat (go_quiet (fail); try go_wp2)
                    go_meet
                    case rel => exact ⟨_, (true), (by first | rfl | (simp; done) | (simp [*]; done)), H', ⟨by have := HK1.out; first | omega | exact Nat.le_refl _⟩, ⟨by (with_reducible repeat (first | apply Kd.R_alloc | apply Kd.R_drewN | apply Kd.R_drew)); exact Kd.R_mono (Kd.R_far (p := ⟨gb108, 1, none⟩) (Kd.R_far (p := ⟨gb108, 0, none⟩) (Kd.R_mono HO_4.out (fun k_ hk => (⟨hk, hk.2⟩ : _ ∧ k_ ≠ gb108))) (fun _ hk => hk.2) (.int .u8 ((rd_T25 t104 x23_1).f0))) (fun _ hk => hk.2) (.int .i64 ((rd_T25 t104 x23_1).f1))) (fun _ hk => hk.1.2)⟩, ⟨by (with_reducible repeat (first | apply Kd.R_alloc | apply Kd.R_drewN | apply Kd.R_drew)); exact Kd.R_mono (Kd.R_far (p := ⟨gb108, 1, none⟩) (Kd.R_far (p := ⟨gb108, 0, none⟩) (Kd.R_mono HO_21.out (fun k_ hk => (⟨hk, hk.2⟩ : _ ∧ k_ ≠ gb108))) (fun _ hk => hk.2) (.int .u8 ((rd_T25 t104 x23_1).f0))) (fun _ hk => hk.2) (.int .i64 ((rd_T25 t104 x23_1).f1))) (fun _ hk => hk.1.2)⟩, ⟨by (with_reducible repeat (first | refine blk_drewN ?_ _ | refine blk_drew ?_ | refine blk_alloc ?_ _)); refine blk_put (cs := #[.int .u8 ((rd_T25 t104 x23_1).f0), .int .i64 0]) ?_ 1 _ rfl; (with_reducible repeat (first | refine blk_drewN ?_ _ | refine blk_drew ?_ | refine blk_alloc ?_ _)); refine blk_put (cs := #[.int .u8 0, .int .i64 0]) ?_ 0 _ rfl; (with_reducible repeat (first | refine blk_drewN ?_ _ | refine blk_drew ?_ | refine blk_alloc ?_ _)); exact BK108.out⟩, ⟨by repeat (first | (with_reducible first | exact HB.out | apply below_alloc | apply pw_below_drewN | apply below_drew1 | refine below_set ?_ GE108.out) | exact HB.out)⟩⟩
                  · rw [if_neg c18] at H
                    have c18b0 : (((rd_T25 t104 x23_1).f1) == 0) = false := beq_eq_false_iff_ne.mpr c18
                    have c18b1 : (((rd_T25 t104 x23_1).f1) != 0) = true := bne_iff_ne.mpr c18
                    (first | rw [c18b0] | (simp only [i64_w, i32_w]; rw [c18b0]) | rw [c18b1] | skip)
                    replace H := Option.bind_eq_some_iff.mp H
                    obtain ⟨t109, A200, H⟩ := H
                    replace H : (if ((rd_T25 t104 x23_1).f1) = t109 then (if x23_1 > 0 then (if 0 ≤ (wrap64 (x23_1 - 1)) then (if (wrap64 (x23_1 - 1)) < (t104.length : Int) then (laws_FnAlphabet.j1 k1 a0 ((t101.length : Int) == 1) t104 x5_1 t104 (t104.length : Int) x23_1 (decide (((rd_T25 t104 (wrap64 (x23_1 - 1))).f0) ≥ ((rd_T25 t104 x23_1).f0))) ((rd_T25 t104 x23_1).f0) ((rd_T25 t104 x23_1).f1)) else (none)) else (none)) else (laws_FnAlphabet.j1 k1 a0 ((t101.length : Int) == 1) t104 x5_1 t104 (t104.length : Int) x23_1 false ((rd_T25 t104 x23_1).f0) ((rd_T25 t104 x23_1).f1))) else (laws_FnAlphabet.j1 k1 a0 ((t101.length : Int) == 1) t104 x5_1 t104 (t104.length : Int) x23_1 true ((rd_T25 t104 x23_1).f0) ((rd_T25 t104 x23_1).f1))) = some r := H
                    have A20 := Aside0.mk A200
                    clear A200
                    by_cases c21 : ((rd_T25 t104 x23_1).f1) = t109
                    · rw [if_pos c21] at H
                      have c21b0 : (((rd_T25 t104 x23_1).f1) == t109) = true := beq_iff_eq.mpr c21
                      have c21b1 : (((rd_T25 t104 x23_1).f1) != t109) = false := bne_eq_false_iff_eq.mpr c21
                      clear c21
                      by_cases c22 : x23_1 > 0
                      · rw [if_pos c22] at H
                        have c22b0 : decide (0 < x23_1) = true := decide_eq_true c22
                        clear c22
                        obtain ⟨ji23, hji23⟩ : ∃ j_ : Int, (wrap64 (x23_1 - 1)) = j_ := ⟨_, rfl⟩
                        replace H : (if 0 ≤ (ji23) then (if (ji23) < (t104.length : Int) then (laws_FnAlphabet.j1 k1 a0 ((t101.length : Int) == 1) t104 x5_1 t104 (t104.length : Int) x23_1 (decide (((rd_T25 t104 (ji23)).f0) ≥ ((rd_T25 t104 x23_1).f0))) ((rd_T25 t104 x23_1).f0) ((rd_T25 t104 x23_1).f1)) else (none)) else (none)) = some r := by first | (rw [hji23] at H; exact H) | (simp only [hji23] at H ⊢; exact H)
                        (try rw [hji23] at A20)
                        have hji23w : (IntKind.i64.wrap (x23_1 - 1)) = ji23 := (i64_w _).trans hji23
                        by_cases c24 : 0 ≤ (ji23)
                        · rw [if_pos c24] at H
                          have c24b0 : decide (0 ≤ (ji23)) = true := decide_eq_true c24
                          clear c24
                          by_cases c25 : (ji23) < (t104.length : Int)
                          · rw [if_pos c25] at H
                            have c25b0 : decide ((ji23) < (t104.length : Int)) = true := decide_eq_true c25
                            clear c25
                            have H' := Aside0.mk H
                            clear H
                            have hcz26_0 : w16.cell? ⟨gb108, 0, none⟩ = some (.int .u8 0) := (blk_cell BK108.out 0).trans rfl
                            have hcz26_1 : w16.cell? ⟨gb108, 1, none⟩ = some (.int .i64 0) := (blk_cell BK108.out 1).trans rfl
                            have hfz26_0 := blk_frozen BK108.out 0
                            have hfz26_1 := blk_frozen BK108.out 1
                            go_wp2_with (first | (go_at_call 6; (with_reducible refine (spec_PatchMask.calls k1 a0 ((rd_T25 t104 x23_1).f0) t109 _ A20.out).mono ?_); rintro e w' ⟨rfl, ⟨nd, rfl⟩⟩; (try first | exact ⟨rfl, _, World.drewN_drewN _ _ _⟩ | exact ⟨rfl, _, Eq.trans (World.drewN_drewN _ _ _) (congrArg (World.drewN _) (Nat.add_assoc _ _ _))⟩); have p110 : 0 ≤ ((ji23) : Int) := of_decide_eq_true (by first | (with_reducible assumption) | assumption); have q110 : (ji23) < (t104.length : Int) := of_decide_eq_true (by first | (with_reducible assumption) | assumption); obtain ⟨ad110, e110, hx110_0, hx110_1⟩ := at_T25 (Kd.R_reads' HO_4.out).2.2 (ji23) p110 q110; obtain rfl : ad107 = ad110 := (by injection e110); have hn110_0 : ad107.block ≠ gb108 := Kd.own_blk (XN108_HO_4.out); have hn110_1 : ad107.block ≠ gb108 := Kd.own_blk (XN108_HO_4.out); replace hx110_0 := (cell_far (p := ⟨gb108, 0, none⟩) (by first | (rw [add_block]; exact hn110_0) | (show (Addr.add _ _).block ≠ _; rw [add_block]; exact hn110_0) | exact hn110_0) (.int .u8 ((rd_T25 t104 x23_1).f0))).trans hx110_0; replace hx110_1 := (cell_far (p := ⟨gb108, 0, none⟩) (by first | (rw [add_block]; exact hn110_0) | (show (Addr.add _ _).block ≠ _; rw [add_block]; exact hn110_0) | exact hn110_0) (.int .u8 ((rd_T25 t104 x23_1).f0))).trans hx110_1; replace hx110_0 := (cell_far (p := ⟨gb108, 1, none⟩) (by first | (rw [add_block]; exact hn110_1) | (show (Addr.add _ _).block ≠ _; rw [add_block]; exact hn110_1) | exact hn110_1) (.int .i64 ((rd_T25 t104 x23_1).f1))).trans hx110_0; replace hx110_1 := (cell_far (p := ⟨gb108, 1, none⟩) (by first | (rw [add_block]; exact hn110_1) | (show (Addr.add _ _).block ≠ _; rw [add_block]; exact hn110_1) | exact hn110_1) (.int .i64 ((rd_T25 t104 x23_1).f1))).trans hx110_1; (try have hy110_0 := fun (n_ : Nat) => (show ((((w16.drewN n_).setCell ⟨gb108, 0, none⟩ (.int .u8 ((rd_T25 t104 x23_1).f0))).setCell ⟨gb108, 1, none⟩ (.int .i64 ((rd_T25 t104 x23_1).f1)))).cell? _ = some _ from hx110_0)); (try have hy110_1 := fun (n_ : Nat) => (show ((((w16.drewN n_).setCell ⟨gb108, 0, none⟩ (.int .u8 ((rd_T25 t104 x23_1).f0))).setCell ⟨gb108, 1, none⟩ (.int .i64 ((rd_T25 t104 x23_1).f1)))).cell? _ = some _ from hx110_1)); clear hn110_0; clear hn110_1; replace p110 := eq_true p110; replace q110 := eq_true q110))
                            repeat (go_quiet (first | (go_at_call 6; (with_reducible refine (spec_PatchMask.calls k1 a0 ((rd_T25 t104 x23_1).f0) t109 _ A20.out).mono ?_); rintro e w' ⟨rfl, ⟨nd, rfl⟩⟩; (try first | exact ⟨rfl, _, World.drewN_drewN _ _ _⟩ | exact ⟨rfl, _, Eq.trans (World.drewN_drewN _ _ _) (congrArg (World.drewN _) (Nat.add_assoc _ _ _))⟩); have p110 : 0 ≤ ((ji23) : Int) := of_decide_eq_true (by first | (with_reducible assumption) | assumption); have q110 : (ji23) < (t104.length : Int) := of_decide_eq_true (by first | (with_reducible assumption) | assumption); obtain ⟨ad110, e110, hx110_0, hx110_1⟩ := at_T25 (Kd.R_reads' HO_4.out).2.2 (ji23) p110 q110; obtain rfl : ad107 = ad110 := (by injection e110); have hn110_0 : ad107.block ≠ gb108 := Kd.own_blk (XN108_HO_4.out); have hn110_1 : ad107.block ≠ gb108 := Kd.own_blk (XN108_HO_4.out); replace hx110_0 := (cell_far (p := ⟨gb108, 0, none⟩) (by first | (rw [add_block]; exact hn110_0) | (show (Addr.add _ _).block ≠ _; rw [add_block]; exact hn110_0) | exact hn110_0) (.int .u8 ((rd_T25 t104 x23_1).f0))).trans hx110_0; replace hx110_1 := (cell_far (p := ⟨gb108, 0, none⟩) (by first | (rw [add_block]; exact hn110_0) | (show (Addr.add _ _).block ≠ _; rw [add_block]; exact hn110_0) | exact hn110_0) (.int .u8 ((rd_T25 t104 x23_1).f0))).trans hx110_1; replace hx110_0 := (cell_far (p := ⟨gb108, 1, none⟩) (by first | (rw [add_block]; exact hn110_1) | (show (Addr.add _ _).block ≠ _; rw [add_block]; exact hn110_1) | exact hn110_1) (.int .i64 ((rd_T25 t104 x23_1).f1))).trans hx110_0; replace hx110_1 := (cell_far (p := ⟨gb108, 1, none⟩) (by first | (rw [add_block]; exact hn110_1) | (show (Addr.add _ _).block ≠ _; rw [add_block]; exact hn110_1) | exact hn110_1) (.int .i64 ((rd_T25 t104 x23_1).f1))).trans hx110_1; (try have hy110_0 := fun (n_ : Nat) => (show ((((w16.drewN n_).setCell ⟨gb108, 0, none⟩ (.int .u8 ((rd_T25 t104 x23_1).f0))).setCell ⟨gb108, 1, none⟩ (.int .i64 ((rd_T25 t104 x23_1).f1)))).cell? _ = some _ from hx110_0)); (try have hy110_1 := fun (n_ : Nat) => (show ((((w16.drewN n_).setCell ⟨gb108, 0, none⟩ (.int .u8 ((rd_T25 t104 x23_1).f0))).setCell ⟨gb108, 1, none⟩ (.int .i64 ((rd_T25 t104 x23_1).f1)))).cell? _ = some _ from hx110_1)); clear hn110_0; clear hn110_1; replace p110 := eq_true p110; replace q110 := eq_true q110)); try go_wp2_with (first | (go_at_call 6; (with_reducible refine (spec_PatchMask.calls k1 a0 ((rd_T25 t104 x23_1).f0) t109 _ A20.out).mono ?_); rintro e w' ⟨rfl, ⟨nd, rfl⟩⟩; (try first | exact ⟨rfl, _, World.drewN_drewN _ _ _⟩ | exact ⟨rfl, _, Eq.trans (World.drewN_drewN _ _ _) (congrArg (World.drewN _) (Nat.add_assoc _ _ _))⟩); have p110 : 0 ≤ ((ji23) : Int) := of_decide_eq_true (by first | (with_reducible assumption) | assumption); have q110 : (ji23) < (t104.length : Int) := of_decide_eq_true (by first | (with_reducible assumption) | assumption); obtain ⟨ad110, e110, hx110_0, hx110_1⟩ := at_T25 (Kd.R_reads' HO_4.out).2.2 (ji23) p110 q110; obtain rfl : ad107 = ad110 := (by injection e110); have hn110_0 : ad107.block ≠ gb108 := Kd.own_blk (XN108_HO_4.out); have hn110_1 : ad107.block ≠ gb108 := Kd.own_blk (XN108_HO_4.out); replace hx110_0 := (cell_far (p := ⟨gb108, 0, none⟩) (by first | (rw [add_block]; exact hn110_0) | (show (Addr.add _ _).block ≠ _; rw [add_block]; exact hn110_0) | exact hn110_0) (.int .u8 ((rd_T25 t104 x23_1).f0))).trans hx110_0; replace hx110_1 := (cell_far (p := ⟨gb108, 0, none⟩) (by first | (rw [add_block]; exact hn110_0) | (show (Addr.add _ _).block ≠ _; rw [add_block]; exact hn110_0) | exact hn110_0) (.int .u8 ((rd_T25 t104 x23_1).f0))).trans hx110_1; replace hx110_0 := (cell_far (p := ⟨gb108, 1, none⟩) (by first | (rw [add_block]; exact hn110_1) | (show (Addr.add _ _).block ≠ _; rw [add_block]; exact hn110_1) | exact hn110_1) (.int .i64 ((rd_T25 t104 x23_1).f1))).trans hx110_0; replace hx110_1 := (cell_far (p := ⟨gb108, 1, none⟩) (by first | (rw [add_block]; exact hn110_1) | (show (Addr.add _ _).block ≠ _; rw [add_block]; exact hn110_1) | exact hn110_1) (.int .i64 ((rd_T25 t104 x23_1).f1))).trans hx110_1; (try have hy110_0 := fun (n_ : Nat) => (show ((((w16.drewN n_).setCell ⟨gb108, 0, none⟩ (.int .u8 ((rd_T25 t104 x23_1).f0))).setCell ⟨gb108, 1, none⟩ (.int .i64 ((rd_T25 t104 x23_1).f1)))).cell? _ = some _ from hx110_0)); (try have hy110_1 := fun (n_ : Nat) => (show ((((w16.drewN n_).setCell ⟨gb108, 0, none⟩ (.int .u8 ((rd_T25 t104 x23_1).f0))).setCell ⟨gb108, 1, none⟩ (.int .i64 ((rd_T25 t104 x23_1).f1)))).cell? _ = some _ from hx110_1)); clear hn110_0; clear hn110_1; replace p110 := eq_true p110; replace q110 := eq_true q110)))
                            go_meet
                            case rel => exact ⟨_, (decide (((rd_T25 t104 (ji23)).f0) ≥ ((rd_T25 t104 x23_1).f0))), (by first | rfl | (simp; done) | (simp only [← hji23] <;> (first | rfl | simp)) | (simp [*]; done)), H', ⟨by have := HK1.out; first | omega | exact Nat.le_refl _⟩, ⟨by (with_reducible repeat (first | apply Kd.R_alloc | apply Kd.R_drewN | apply Kd.R_drew)); exact Kd.R_mono (Kd.R_far (p := ⟨gb108, 1, none⟩) (Kd.R_far (p := ⟨gb108, 0, none⟩) (Kd.R_mono HO_4.out (fun k_ hk => (⟨hk, hk.2⟩ : _ ∧ k_ ≠ gb108))) (fun _ hk => hk.2) (.int .u8 ((rd_T25 t104 x23_1).f0))) (fun _ hk => hk.2) (.int .i64 ((rd_T25 t104 x23_1).f1))) (fun _ hk => hk.1.2)⟩, ⟨by (with_reducible repeat (first | apply Kd.R_alloc | apply Kd.R_drewN | apply Kd.R_drew)); exact Kd.R_mono (Kd.R_far (p := ⟨gb108, 1, none⟩) (Kd.R_far (p := ⟨gb108, 0, none⟩) (Kd.R_mono HO_21.out (fun k_ hk => (⟨hk, hk.2⟩ : _ ∧ k_ ≠ gb108))) (fun _ hk => hk.2) (.int .u8 ((rd_T25 t104 x23_1).f0))) (fun _ hk => hk.2) (.int .i64 ((rd_T25 t104 x23_1).f1))) (fun _ hk => hk.1.2)⟩, ⟨by (with_reducible repeat (first | refine blk_drewN ?_ _ | refine blk_drew ?_ | refine blk_alloc ?_ _)); refine blk_put (cs := #[.int .u8 ((rd_T25 t104 x23_1).f0), .int .i64 0]) ?_ 1 _ rfl; (with_reducible repeat (first | refine blk_drewN ?_ _ | refine blk_drew ?_ | refine blk_alloc ?_ _)); refine blk_put (cs := #[.int .u8 0, .int .i64 0]) ?_ 0 _ rfl; (with_reducible repeat (first | refine blk_drewN ?_ _ | refine blk_drew ?_ | refine blk_alloc ?_ _)); exact BK108.out⟩, ⟨by repeat (first | (with_reducible first | exact HB.out | apply below_alloc | apply pw_below_drewN | apply below_drew1 | refine below_set ?_ GE108.out) | exact HB.out)⟩⟩
                          · rw [if_neg c25] at H
                            exact absurd H (by simp)
                        · rw [if_neg c24] at H
                          exact absurd H (by simp)
                      · rw [if_neg c22] at H
                        have c22b0 : decide (0 < x23_1) = false := decide_eq_false c22
                        clear c22
                        have H' := Aside0.mk H
                        clear H
                        have hcz27_0 : w16.cell? ⟨gb108, 0, none⟩ = some (.int .u8 0) := (blk_cell BK108.out 0).trans rfl
                        have hcz27_1 : w16.cell? ⟨gb108, 1, none⟩ = some (.int .i64 0) := (blk_cell BK108.out 1).trans rfl
                        have hfz27_0 := blk_frozen BK108.out 0
                        have hfz27_1 := blk_frozen BK108.out 1
                        go_wp2_with (first | (go_at_call 6; (with_reducible refine (spec_PatchMask.calls k1 a0 ((rd_T25 t104 x23_1).f0) t109 _ A20.out).mono ?_); rintro e w' ⟨rfl, ⟨nd, rfl⟩⟩; (try first | exact ⟨rfl, _, World.drewN_drewN _ _ _⟩ | exact ⟨rfl, _, Eq.trans (World.drewN_drewN _ _ _) (congrArg (World.drewN _) (Nat.add_assoc _ _ _))⟩)))
                        repeat (go_quiet (first | (go_at_call 6; (with_reducible refine (spec_PatchMask.calls k1 a0 ((rd_T25 t104 x23_1).f0) t109 _ A20.out).mono ?_); rintro e w' ⟨rfl, ⟨nd, rfl⟩⟩; (try first | exact ⟨rfl, _, World.drewN_drewN _ _ _⟩ | exact ⟨rfl, _, Eq.trans (World.drewN_drewN _ _ _) (congrArg (World.drewN _) (Nat.add_assoc _ _ _))⟩))); try go_wp2_with (first | (go_at_call 6; (with_reducible refine (spec_PatchMask.calls k1 a0 ((rd_T25 t104 x23_1).f0) t109 _ A20.out).mono ?_); rintro e w' ⟨rfl, ⟨nd, rfl⟩⟩; (try first | exact ⟨rfl, _, World.drewN_drewN _ _ _⟩ | exact ⟨rfl, _, Eq.trans (World.drewN_drewN _ _ _) (congrArg (World.drewN _) (Nat.add_assoc _ _ _))⟩))))
                        go_meet
                        case rel => exact ⟨_, (false), (by first | rfl | (simp; done) | (simp [*]; done)), H', ⟨by have := HK1.out; first | omega | exact Nat.le_refl _⟩, ⟨by (with_reducible repeat (first | apply Kd.R_alloc | apply Kd.R_drewN | apply Kd.R_drew)); exact Kd.R_mono (Kd.R_far (p := ⟨gb108, 1, none⟩) (Kd.R_far (p := ⟨gb108, 0, none⟩) (Kd.R_mono HO_4.out (fun k_ hk => (⟨hk, hk.2⟩ : _ ∧ k_ ≠ gb108))) (fun _ hk => hk.2) (.int .u8 ((rd_T25 t104 x23_1).f0))) (fun _ hk => hk.2) (.int .i64 ((rd_T25 t104 x23_1).f1))) (fun _ hk => hk.1.2)⟩, ⟨by (with_reducible repeat (first | apply Kd.R_alloc | apply Kd.R_drewN | apply Kd.R_drew)); exact Kd.R_mono (Kd.R_far (p := ⟨gb108, 1, none⟩) (Kd.R_far (p := ⟨gb108, 0, none⟩) (Kd.R_mono HO_21.out (fun k_ hk => (⟨hk, hk.2⟩ : _ ∧ k_ ≠ gb108))) (fun _ hk => hk.2) (.int .u8 ((rd_T25 t104 x23_1).f0))) (fun _ hk => hk.2) (.int .i64 ((rd_T25 t104 x23_1).f1))) (fun _ hk => hk.1.2)⟩, ⟨by (with_reducible repeat (first | refine blk_drewN ?_ _ | refine blk_drew ?_ | refine blk_alloc ?_ _)); refine blk_put (cs := #[.int .u8 ((rd_T25 t104 x23_1).f0), .int .i64 0]) ?_ 1 _ rfl; (with_reducible repeat (first | refine blk_drewN ?_ _ | refine blk_drew ?_ | refine blk_alloc ?_ _)); refine blk_put (cs := #[.int .u8 0, .int .i64 0]) ?_ 0 _ rfl; (with_reducible repeat (first | refine blk_drewN ?_ _ | refine blk_drew ?_ | refine blk_alloc ?_ _)); exact BK108.out⟩, ⟨by repeat (first | (with_reducible first | exact HB.out | apply below_alloc | apply pw_below_drewN | apply below_drew1 | refine below_set ?_ GE108.out) | exact HB.out)⟩⟩
                    · rw [if_neg c21] at H
                      have c21b0 : (((rd_T25 t104 x23_1).f1) == t109) = false := beq_eq_false_iff_ne.mpr c21
                      have c21b1 : (((rd_T25 t104 x23_1).f1) != t109) = true := bne_iff_ne.mpr c21
                      have H' := Aside0.mk H
                      clear H
                      have hcz28_0 : w16.cell? ⟨gb108, 0, none⟩ = some (.int .u8 0) := (blk_cell BK108.out 0).trans rfl
                      have hcz28_1 : w16.cell? ⟨gb108, 1, none⟩ = some (.int .i64 0) := (blk_cell BK108.out 1).trans rfl
                      have hfz28_0 := blk_frozen BK108.out 0
                      have hfz28_1 := blk_frozen BK108.out 1
                      go_wp2_with (first | (go_at_call 6; (with_reducible refine (spec_PatchMask.calls k1 a0 ((rd_T25 t104 x23_1).f0) t109 _ A20.out).mono ?_); rintro e w' ⟨rfl, ⟨nd, rfl⟩⟩; (try first | exact ⟨rfl, _, World.drewN_drewN _ _ _⟩ | exact ⟨rfl, _, Eq.trans (World.drewN_drewN _ _ _) (congrArg (World.drewN _) (Nat.add_assoc _ _ _))⟩)))
                      repeat (go_quiet (first | (go_at_call 6; (with_reducible refine (spec_PatchMask.calls k1 a0 ((rd_T25 t104 x23_1).f0) t109 _ A20.out).mono ?_); rintro e w' ⟨rfl, ⟨nd, rfl⟩⟩; (try first | exact ⟨rfl, _, World.drewN_drewN _ _ _⟩ | exact ⟨rfl, _, Eq.trans (World.drewN_drewN _ _ _) (congrArg (World.drewN _) (Nat.add_assoc _ _ _))⟩))); try go_wp2_with (first | (go_at_call 6; (with_reducible refine (spec_PatchMask.calls k1 a0 ((rd_T25 t104 x23_1).f0) t109 _ A20.out).mono ?_); rintro e w' ⟨rfl, ⟨nd, rfl⟩⟩; (try first | exact ⟨rfl, _, World.drewN_drewN _ _ _⟩ | exact ⟨rfl, _, Eq.trans (World.drewN_drewN _ _ _) (congrArg (World.drewN _) (Nat.add_assoc _ _ _))⟩))))
                      go_meet
                      case rel => exact ⟨_, (true), (by first | rfl | (simp; done) | (simp [*]; done)), H', ⟨by have := HK1.out; first | omega | exact Nat.le_refl _⟩, ⟨by (with_reducible repeat (first | apply Kd.R_alloc | apply Kd.R_drewN | apply Kd.R_drew)); exact Kd.R_mono (Kd.R_far (p := ⟨gb108, 1, none⟩) (Kd.R_far (p := ⟨gb108, 0, none⟩) (Kd.R_mono HO_4.out (fun k_ hk => (⟨hk, hk.2⟩ : _ ∧ k_ ≠ gb108))) (fun _ hk => hk.2) (.int .u8 ((rd_T25 t104 x23_1).f0))) (fun _ hk => hk.2) (.int .i64 ((rd_T25 t104 x23_1).f1))) (fun _ hk => hk.1.2)⟩, ⟨by (with_reducible repeat (first | apply Kd.R_alloc | apply Kd.R_drewN | apply Kd.R_drew)); exact Kd.R_mono (Kd.R_far (p := ⟨gb108, 1, none⟩) (Kd.R_far (p := ⟨gb108, 0, none⟩) (Kd.R_mono HO_21.out (fun k_ hk => (⟨hk, hk.2⟩ : _ ∧ k_ ≠ gb108))) (fun _ hk => hk.2) (.int .u8 ((rd_T25 t104 x23_1).f0))) (fun _ hk => hk.2) (.int .i64 ((rd_T25 t104 x23_1).f1))) (fun _ hk => hk.1.2)⟩, ⟨by (with_reducible repeat (first | refine blk_drewN ?_ _ | refine blk_drew ?_ | refine blk_alloc ?_ _)); refine blk_put (cs := #[.int .u8 ((rd_T25 t104 x23_1).f0), .int .i64 0]) ?_ 1 _ rfl; (with_reducible repeat (first | refine blk_drewN ?_ _ | refine blk_drew ?_ | refine blk_alloc ?_ _)); refine blk_put (cs := #[.int .u8 0, .int .i64 0]) ?_ 0 _ rfl; (with_reducible repeat (first | refine blk_drewN ?_ _ | refine blk_drew ?_ | refine blk_alloc ?_ _)); exact BK108.out⟩, ⟨by repeat (first | (with_reducible first | exact HB.out | apply below_alloc | apply pw_below_drewN | apply below_drew1 | refine below_set ?_ GE108.out) | exact HB.out)⟩⟩
                case rest =>
                  clear HC15
                  try clear c1
                  try clear p1
                  try clear q1
                  try clear hx1
                  try clear c2
                  try clear c2b0
                  try clear c2b1
                  try clear p2
                  try clear c3
                  try clear c4
                  try clear c4b0
                  try clear c4b1
                  try clear p6
                  try clear p10
                  try clear q10
                  try clear hx10
                  try clear p11
                  try clear q11
                  try clear hx11
                  try clear c12
                  try clear c12b0
                  try clear c13
                  try clear c13b0
                  try clear c14
                  try clear c14b0
                  try clear c18
                  try clear c18b0
                  try clear c18b1
                  try clear c21
                  try clear c21b0
                  try clear c21b1
                  try clear c22
                  try clear c22b0
                  try clear c24
                  try clear c24b0
                  try clear c25
                  try clear c25b0
                  try clear hcz17_0
                  try clear hcz17_1
                  try clear hcz19_0
                  try clear hcz19_1
                  try clear hcz26_0
                  try clear hcz26_1
                  try clear hcz27_0
                  try clear hcz27_1
                  try clear hcz28_0
                  try clear hcz28_1
                  try clear hfz17_0
                  try clear hfz17_1
                  try clear hfz19_0
                  try clear hfz19_1
                  try clear hfz26_0
                  try clear hfz26_1
                  try clear hfz27_0
                  try clear hfz27_1
                  try clear hfz28_0
                  try clear hfz28_1
                  try clear hx107_0
                  try clear hx107_1
                  try clear hx110_0
                  try clear hx110_1
                  try clear p107
                  try clear p110
                  try clear p2
                  try clear q107
                  try clear q110
                  obtain ⟨kq, x54_14, rfl, HA, HJ14, HO_4, HO_21, BK108, HB⟩ := hcut
                  cases kq with
                  | zero => exact absurd HA.out (by simp [laws_FnAlphabet.j1])
                  | succ kj14 =>
                    have H := HA.out
                    clear HA
                    simp only [laws_FnAlphabet.j1] at H
                    by_cases c29 : x54_14 = true
                    · subst c29
                      have H1 : (some false) = some r := by rw [if_pos rfl] at H; exact H
                      clear H
                      have H := H1
                      clear H1
                      obtain rfl := Option.some.inj H
                      go_wp2
                      repeat (go_quiet (fail); try go_wp2)
                      go_ret
                      exact ⟨by first | rfl | (simp [errW_none, errW_some] <;> rfl) | (simp [*, errW_none, errW_some] <;> rfl), by repeat (first | (with_reducible first | exact HB.out | apply below_alloc | apply pw_below_drewN | apply below_drew1 | refine below_set ?_ GE108.out) | exact HB.out)⟩
                    · replace c29 := Bool.eq_false_iff.mpr c29
                      subst c29
                      have H1 : (laws_FnAlphabet.l1 kj14 a0 ((t101.length : Int) == 1) t104 x5_1 t104 (t104.length : Int) x23_1 (a0.size : Int) 0 ((rd_T25 t104 x23_1).f0) ((rd_T25 t104 x23_1).f1)) = some r := by rw [if_neg (show ¬ (false = true) by decide)] at H; exact H
                      clear H
                      have H := H1
                      clear H1
                      have H' := Aside0.mk H
                      clear H
                      go_wp2
                      repeat (go_quiet (fail); try go_wp2)
                      go_loopg [5, 57] kj14 (fun kq v5 v57 w' => ∃ (x5_3 : Int) (x57_3 : Int), v5 = .int .i64 x5_3 ∧ v57 = .int .i64 x57_3 ∧ Aside0 (laws_FnAlphabet.l1 kq a0 ((t101.length : Int) == 1) t104 x5_3 t104 (t104.length : Int) x23_1 (a0.size : Int) x57_3 ((rd_T25 t104 x23_1).f0) ((rd_T25 t104 x23_1).f1) = some r) ∧ Aside0 (kq ≤ kj14) ∧ Aside0 (Kd.R k25 25 w' w.heap.size (fun k_ => k_ ≠ gb108) (.slice (some ad107) t104.length co11) t104) ∧ Aside0 (Kd.R k25 25 w' w.heap.size (fun k_ => k_ ≠ gb108) (.slice (some ad107) t104.length co11) t104) ∧ Aside0 (w'.heap[gb108]? = some (.cells #[.int .u8 ((rd_T25 t104 x23_1).f0), .int .i64 ((rd_T25 t104 x23_1).f1)] 25 (0, 0))) ∧ Aside0 (Below w.heap.size w w'))
                      case atStart => exact ⟨(x5_1), (0), (by first | rfl | (simp; done) | (simp [*]; done)), (by first | rfl | (simp; done) | (simp [*]; done)), H', ⟨Nat.le_refl _⟩, ⟨by (with_reducible repeat (first | apply Kd.R_alloc | apply Kd.R_drewN | apply Kd.R_drew)); exact HO_4.out⟩, ⟨by (with_reducible repeat (first | apply Kd.R_alloc | apply Kd.R_drewN | apply Kd.R_drew)); exact HO_21.out⟩, ⟨by (with_reducible repeat (first | refine blk_drewN ?_ _ | refine blk_drew ?_ | refine blk_alloc ?_ _)); exact BK108.out⟩, ⟨by repeat (first | (with_reducible first | exact HB.out | apply below_alloc | apply pw_below_drewN | apply below_drew1 | refine below_set ?_ GE108.out) | exact HB.out)⟩⟩
                      case round =>
                        clear H'
                        try clear c1
                        try clear p1
                        try clear q1
                        try clear hx1
                        try clear c2
                        try clear c2b0
                        try clear c2b1
                        try clear p2
                        try clear c3
                        try clear c4
                        try clear c4b0
                        try clear c4b1
                        try clear p6
                        try clear p10
                        try clear q10
                        try clear hx10
                        try clear p11
                        try clear q11
                        try clear hx11
                        try clear c12
                        try clear c12b0
                        try clear c13
                        try clear c13b0
                        try clear c14
                        try clear c14b0
                        try clear c18
                        try clear c18b0
                        try clear c18b1
                        try clear c21
                        try clear c21b0
                        try clear c21b1
                        try clear c22
                        try clear c22b0
                        try clear c24
                        try clear c24b0
                        try clear c25
                        try clear c25b0
                        try clear c29
                        try clear hcz17_0
                        try clear hcz17_1
                        try clear hcz19_0
                        try clear hcz19_1
                        try clear hcz26_0
                        try clear hcz26_1
                        try clear hcz27_0
                        try clear hcz27_1
                        try clear hcz28_0
                        try clear hcz28_1
                        try clear hfz17_0
                        try clear hfz17_1
                        try clear hfz19_0
                        try clear hfz19_1
                        try clear hfz26_0
                        try clear hfz26_1
                        try clear hfz27_0
                        try clear hfz27_1
                        try clear hfz28_0
                        try clear hfz28_1
                        try clear hx107_0
                        try clear hx107_1
                        try clear hx110_0
                        try clear hx110_1
                        try clear p1
                        try clear p10
                        try clear p107
                        try clear p11
                        try clear p110
                        try clear p2
                        try clear p6
                        try clear q1
                        try clear q10
                        try clear q107
                        try clear q11
                        try clear q110
                        obtain ⟨x5_3, x57_3, rfl, rfl, HA, HK3, HO_4, HO_21, BK108, HB⟩ := hrel
                        cases gk with
                        | zero => exact absurd HA.out (by simp [laws_FnAlphabet.l1])
                        | succ k3 =>
                          have H := HA.out
                          clear HA
                          simp only [laws_FnAlphabet.l1] at H
                          by_cases c30 : x57_3 < (a0.size : Int)
                          · rw [if_pos c30] at H
                            have c30b0 : decide (x57_3 < (a0.size : Int)) = true := decide_eq_true c30
                            clear c30
                            by_cases c31 : 0 ≤ x57_3
                            · rw [if_pos c31] at H
                              have c31b0 : decide (0 ≤ x57_3) = true := decide_eq_true c31
                              clear c31
                              by_cases c32 : x57_3 < (a0.size : Int)
                              · rw [if_pos c32] at H
                                have c32b0 : decide (x57_3 < (a0.size : Int)) = true := decide_eq_true c32
                                clear c32
                                by_cases c34 : (bt a0 x57_3) = ((rd_T25 t104 x23_1).f0)
                                · rw [if_pos c34] at H
                                  have c34b0 : ((bt a0 x57_3) == ((rd_T25 t104 x23_1).f0)) = true := beq_iff_eq.mpr c34
                                  have c34b1 : ((bt a0 x57_3) != ((rd_T25 t104 x23_1).f0)) = false := bne_eq_false_iff_eq.mpr c34
                                  clear c34
                                  have H' := Aside0.mk H
                                  clear H
                                  have p33 : 0 ≤ (x57_3 : Int) := of_decide_eq_true (by first | (with_reducible assumption) | assumption)
                                  have q33 : x57_3 < (a0.size : Int) := of_decide_eq_true (by first | (with_reducible assumption) | assumption)
                                  have hx33 := bt_at a0 x57_3
                                  replace p33 := eq_true p33
                                  replace q33 := eq_true q33
                                  have hcz35_0 : wr.cell? ⟨gb108, 0, none⟩ = some (.int .u8 ((rd_T25 t104 x23_1).f0)) := (blk_cell BK108.out 0).trans rfl
                                  have hcz35_1 : wr.cell? ⟨gb108, 1, none⟩ = some (.int .i64 ((rd_T25 t104 x23_1).f1)) := (blk_cell BK108.out 1).trans rfl
                                  have hfz35_0 := blk_frozen BK108.out 0
                                  have hfz35_1 := blk_frozen BK108.out 1
                                  go_wp2
                                  repeat (go_quiet (fail); try go_wp2)
                                  go_roundg k3
                                  case measure => have := HK1.out; have := HJ14.out; have := HK3.out; omega
                                  case rel => exact ⟨(wrap64 (x5_3 + 1)), (wrap64 (x57_3 + 1)), (by first | rfl | (simp; done) | (simp [*]; done)), (by first | rfl | (simp; done) | (simp [*]; done)), H', ⟨by have := HK1.out; have := HJ14.out; have := HK3.out; omega⟩, ⟨by (with_reducible repeat (first | apply Kd.R_alloc | apply Kd.R_drewN | apply Kd.R_drew)); exact HO_4.out⟩, ⟨by (with_reducible repeat (first | apply Kd.R_alloc | apply Kd.R_drewN | apply Kd.R_drew)); exact HO_21.out⟩, ⟨by (with_reducible repeat (first | refine blk_drewN ?_ _ | refine blk_drew ?_ | refine blk_alloc ?_ _)); exact BK108.out⟩, ⟨by repeat (first | (with_reducible first | exact HB.out | apply below_alloc | apply pw_below_drewN | apply below_drew1 | refine below_set ?_ GE108.out) | exact HB.out)⟩⟩
                                · rw [if_neg c34] at H
                                  have c34b0 : ((bt a0 x57_3) == ((rd_T25 t104 x23_1).f0)) = false := beq_eq_false_iff_ne.mpr c34
                                  have c34b1 : ((bt a0 x57_3) != ((rd_T25 t104 x23_1).f0)) = true := bne_iff_ne.mpr c34
                                  have H' := Aside0.mk H
                                  clear H
                                  have p33 : 0 ≤ (x57_3 : Int) := of_decide_eq_true (by first | (with_reducible assumption) | assumption)
                                  have q33 : x57_3 < (a0.size : Int) := of_decide_eq_true (by first | (with_reducible assumption) | assumption)
                                  have hx33 := bt_at a0 x57_3
                                  replace p33 := eq_true p33
                                  replace q33 := eq_true q33
                                  have hcz36_0 : wr.cell? ⟨gb108, 0, none⟩ = some (.int .u8 ((rd_T25 t104 x23_1).f0)) := (blk_cell BK108.out 0).trans rfl
                                  have hcz36_1 : wr.cell? ⟨gb108, 1, none⟩ = some (.int .i64 ((rd_T25 t104 x23_1).f1)) := (blk_cell BK108.out 1).trans rfl
                                  have hfz36_0 := blk_frozen BK108.out 0
                                  have hfz36_1 := blk_frozen BK108.out 1
                                  go_wp2
                                  repeat (go_quiet (fail); try go_wp2)
                                  go_roundg k3
                                  case measure => have := HK1.out; have := HJ14.out; have := HK3.out; omega
                                  case rel => exact ⟨(x5_3), (wrap64 (x57_3 + 1)), (by first | rfl | (simp; done) | (simp [*]; done)), (by first | rfl | (simp; done) | (simp [*]; done)), H', ⟨by have := HK1.out; have := HJ14.out; have := HK3.out; omega⟩, ⟨by (with_reducible repeat (first | apply Kd.R_alloc | apply Kd.R_drewN | apply Kd.R_drew)); exact HO_4.out⟩, ⟨by (with_reducible repeat (first | apply Kd.R_alloc | apply Kd.R_drewN | apply Kd.R_drew)); exact HO_21.out⟩, ⟨by (with_reducible repeat (first | refine blk_drewN ?_ _ | refine blk_drew ?_ | refine blk_alloc ?_ _)); exact BK108.out⟩, ⟨by repeat (first | (with_reducible first | exact HB.out | apply below_alloc | apply pw_below_drewN | apply below_drew1 | refine below_set ?_ GE108.out) | exact HB.out)⟩⟩
                              · rw [if_neg c32] at H
                                exact absurd H (by simp)
                            · rw [if_neg c31] at H
                              exact absurd H (by simp)
                          · rw [if_neg c30] at H
                            have c30b0 : decide (x57_3 < (a0.size : Int)) = false := decide_eq_false c30
                            clear c30
                            have H' := Aside0.mk H
                            clear H
                            go_wp2
                            repeat (go_quiet (fail); try go_wp2)
                            go_roundg k3
                            case measure => have := HK1.out; have := HJ14.out; have := HK3.out; omega
                            case rel => exact ⟨(x5_3), (wrap64 (x23_1 + 1)), (by first | rfl | (simp; done) | (simp [*]; done)), (by first | rfl | (simp; done) | (simp [*]; done)), H', ⟨by have := HK1.out; have := HJ14.out; have := HK3.out; omega⟩, ⟨by (with_reducible repeat (first | apply Kd.R_alloc | apply Kd.R_drewN | apply Kd.R_drew)); exact Kd.R_mono HO_4.out (fun _ hk => trivial)⟩, ⟨by (with_reducible repeat (first | apply Kd.R_alloc | apply Kd.R_drewN | apply Kd.R_drew)); exact Kd.R_mono HO_21.out (fun _ hk => trivial)⟩, ⟨by repeat (first | (with_reducible first | exact HB.out | apply below_alloc | apply pw_below_drewN | apply below_drew1 | refine below_set ?_ GE108.out) | exact HB.out)⟩⟩
              · rw [if_neg c14] at H
                exact absurd H (by simp)
            · rw [if_neg c13] at H
              exact absurd H (by simp)
          · rw [if_neg c12] at H
            have c12b0 : decide (x23_1 < (t104.length : Int)) = false := decide_eq_false c12
            clear c12
            by_cases c37 : x5_1 = (a0.size : Int)
            · rw [if_pos c37] at H
              have c37b0 : (x5_1 == (a0.size : Int)) = true := beq_iff_eq.mpr c37
              have c37b1 : (x5_1 != (a0.size : Int)) = false := bne_eq_false_iff_eq.mpr c37
              clear c37
              obtain rfl := Option.some.inj H
              go_wp2
              repeat (go_quiet (fail); try go_wp2)
              go_ret
              exact ⟨by first | rfl | (simp [errW_none, errW_some] <;> rfl) | (simp [*, errW_none, errW_some] <;> rfl), by repeat (first | (with_reducible first | exact HB.out | apply below_alloc | apply pw_below_drewN | apply below_drew1) | exact HB.out)⟩
            · rw [if_neg c37] at H
              have c37b0 : (x5_1 == (a0.size : Int)) = false := beq_eq_false_iff_ne.mpr c37
              have c37b1 : (x5_1 != (a0.size : Int)) = true := bne_iff_ne.mpr c37
              obtain rfl := Option.some.inj H
              go_wp2
              repeat (go_quiet (fail); try go_wp2)
              go_ret
              exact ⟨by first | rfl | (simp [errW_none, errW_some] <;> rfl) | (simp [*, errW_none, errW_some] <;> rfl), by repeat (first | (with_reducible first | exact HB.out | apply below_alloc | apply pw_below_drewN | apply below_drew1) | exact HB.out)⟩

end Go.Proofs.Ytmdgnglgabnhnaa.P
