-- Written by a program of this session (wip/tools): the printer's text for functions of the seat Ytmdgnglgabnhnaa. Not trusted: Lean checks it.
import Derived.Test.YtmdgnglgabnhnaaPx0
import Derived.Test.YtmdgnglgabnhnaaPx1
namespace Go.Proofs.Ytmdgnglgabnhnaa.P
open Go.RowKit Go.Proofs.YtmdgnglgabnhnaaW.PrintWords Go.Proofs.YtmdgnglgabnhnaaW.PrintLast Go.Proofs.YtmdgnglgabnhnaaW.PrintMore
attribute [local go_sem] max2_int min2_int max_two min_two max_three min_three max_four min_four   -- for this text's walks alone
open Go.Proofs.YtmdgnglgabnhnaaX
set_option linter.unusedVariables false
set_option linter.unusedSimpArgs false

/-! ### laws_FnOverlap: function 4 -/
mutual
def laws_FnOverlap.j0 : Nat → ByteArray → ByteArray → Bool → Option (Bool)
  | 0, _, _, _ => none
  | k + 1, x0, x1, x12 => if x12 = true then (some true) else (if (x0.size : Int) > 200 then (laws_FnOverlap.j1 k x0 x1 true) else (if (x1.size : Int) > 200 then (laws_FnOverlap.j1 k x0 x1 true) else ((laws_isAsciiText.f k x0).bind fun t105 => (if t105 = true then ((laws_isAsciiText.f k x1).bind fun t106 => (laws_FnOverlap.j1 k x0 x1 (!t106))) else (laws_FnOverlap.j1 k x0 x1 true)))))
def laws_FnOverlap.j1 : Nat → ByteArray → ByteArray → Bool → Option (Bool)
  | 0, _, _, _ => none
  | k + 1, x0, x1, x30 => if x30 = true then (some true) else ((impl_Overlap.f k x0 x1).bind fun t107 => ((spec_DiffOverlap.f k x0 x1).bind fun t108 => (if t107 = t108 then ((impl_Overlap.f k (⟨#[97, 98]⟩ : ByteArray) (⟨#[98, 99]⟩ : ByteArray)).bind fun t109 => (some (t109 == 1))) else (some false))))
end
def laws_FnOverlap.f (k : Nat) (a0 : ByteArray) (a1 : ByteArray) : Option (Bool) := if (a0.size : Int) > 2147483647 then (laws_FnOverlap.j0 k a0 a1 true) else (laws_FnOverlap.j0 k a0 a1 (decide ((a1.size : Int) > 2147483647)))
theorem laws_FnOverlap.mono_l : ∀ k, (∀ y0 y1 y2, LeO (laws_FnOverlap.j0 k y0 y1 y2) (laws_FnOverlap.j0 (k + 1) y0 y1 y2)) ∧ (∀ y0 y1 y2, LeO (laws_FnOverlap.j1 k y0 y1 y2) (laws_FnOverlap.j1 (k + 1) y0 y1 y2))
  | 0 => ⟨fun _ _ _ r h => by simp [laws_FnOverlap.j0] at h, fun _ _ _ r h => by simp [laws_FnOverlap.j1] at h⟩
  | k + 1 => by
    obtain ⟨ih0, ih1⟩ := laws_FnOverlap.mono_l k
    refine ⟨?_, ?_⟩
    · intro y0 y1 y2
      unfold laws_FnOverlap.j0
      repeat' first
      | (with_reducible exact ih0 _ _ _)
      | (with_reducible exact ih1 _ _ _)
      | (with_reducible exact impl_Overlap.mono _ _ _)
      | (with_reducible exact laws_isAsciiText.mono _ _)
      | (with_reducible exact spec_DiffOverlap.mono _ _ _)
      | (with_reducible exact LeO.refl _)
      | (with_reducible exact LeO.none _)
      | (with_reducible refine LeO.ite ?_ ?_)
      | (with_reducible refine LeO.bind ?_ (fun _ => ?_))
      | exact ih0 _ _ _
      | exact ih1 _ _ _
      | exact impl_Overlap.mono _ _ _
      | exact laws_isAsciiText.mono _ _
      | exact spec_DiffOverlap.mono _ _ _
      | exact LeO.none _
      | refine LeO.ite ?_ ?_
      | refine LeO.bind ?_ (fun _ => ?_)
    · intro y0 y1 y2
      unfold laws_FnOverlap.j1
      repeat' first
      | (with_reducible exact ih0 _ _ _)
      | (with_reducible exact ih1 _ _ _)
      | (with_reducible exact impl_Overlap.mono _ _ _)
      | (with_reducible exact laws_isAsciiText.mono _ _)
      | (with_reducible exact spec_DiffOverlap.mono _ _ _)
      | (with_reducible exact LeO.refl _)
      | (with_reducible exact LeO.none _)
      | (with_reducible refine LeO.ite ?_ ?_)
      | (with_reducible refine LeO.bind ?_ (fun _ => ?_))
      | exact ih0 _ _ _
      | exact ih1 _ _ _
      | exact impl_Overlap.mono _ _ _
      | exact laws_isAsciiText.mono _ _
      | exact spec_DiffOverlap.mono _ _ _
      | exact LeO.none _
      | refine LeO.ite ?_ ?_
      | refine LeO.bind ?_ (fun _ => ?_)
theorem laws_FnOverlap.mono : ∀ a0 a1 k, LeO (laws_FnOverlap.f k a0 a1) (laws_FnOverlap.f (k + 1) a0 a1) := by
  intro a0 a1 k
  obtain ⟨ih0, ih1⟩ := laws_FnOverlap.mono_l k
  unfold laws_FnOverlap.f
  repeat' first
      | (with_reducible exact ih0 _ _ _)
      | (with_reducible exact ih1 _ _ _)
      | (with_reducible exact impl_Overlap.mono _ _ _)
      | (with_reducible exact laws_isAsciiText.mono _ _)
      | (with_reducible exact spec_DiffOverlap.mono _ _ _)
      | (with_reducible exact LeO.refl _)
      | (with_reducible exact LeO.none _)
      | (with_reducible refine LeO.ite ?_ ?_)
      | (with_reducible refine LeO.bind ?_ (fun _ => ?_))
      | exact ih0 _ _ _
      | exact ih1 _ _ _
      | exact impl_Overlap.mono _ _ _
      | exact laws_isAsciiText.mono _ _
      | exact spec_DiffOverlap.mono _ _ _
      | exact LeO.none _
      | refine LeO.ite ?_ ?_
      | refine LeO.bind ?_ (fun _ => ?_)
set_option maxHeartbeats 8000000 in
set_option maxRecDepth 100000 in
theorem laws_FnOverlap.calls (k : Nat) (a0 : ByteArray) (a1 : ByteArray) (r : Bool) (w : World) (h : laws_FnOverlap.f k a0 a1 = some r) :
    Calls Try.prog 4 #[.string a0, .string a1] w fun e w' => e = .returned (.bool r) ∧ Below w.heap.size w w' := by
  have HB := Aside0.mk (Below.refl w.heap.size w)
  have H : (if (a0.size : Int) > 2147483647 then (laws_FnOverlap.j0 k a0 a1 true) else (laws_FnOverlap.j0 k a0 a1 (decide ((a1.size : Int) > 2147483647)))) = some r := h
  clear h
  have HC3 := Aside0.mk H
  clear H
  go_enter Try.func4, Try.ntmps4
  go_upto_region 1 with (fail)
  go_cut [12] (fun v12 wc => ∃ (kq : Nat) (x12_2 : Bool), v12 = .bool x12_2 ∧ Aside0 (laws_FnOverlap.j0 kq a0 a1 x12_2 = some r) ∧ Aside0 (kq ≤ k) ∧ Aside0 (Below w.heap.size w wc))
  case first =>
    have H := HC3.out
    clear HC3
    by_cases c4 : (a0.size : Int) > 2147483647
    · rw [if_pos c4] at H
      have c4b0 : decide (2147483647 < (a0.size : Int)) = true := decide_eq_true c4
      have c4b1 : decide (2147483647 < a0.size) = true := decide_eq_true (by omega)
      clear c4
      (first | rw [c4b0] | (simp only [i64_w, i32_w]; rw [c4b0]) | rw [c4b1] | skip)
      have H' := Aside0.mk H
      clear H
      go_wp2
      go_meet
      case rel => exact ⟨_, (true), (by first | rfl | (simp; done) | (simp [*]; done)), H', ⟨by first | omega | exact Nat.le_refl _⟩, ⟨by repeat (first | (with_reducible first | exact HB.out | apply below_alloc | apply pw_below_drewN | apply below_drew1) | exact HB.out)⟩⟩
    · rw [if_neg c4] at H
      have c4b0 : decide (2147483647 < (a0.size : Int)) = false := decide_eq_false c4
      have c4b1 : decide (2147483647 < a0.size) = false := decide_eq_false (by omega)
      clear c4
      (first | rw [c4b0] | (simp only [i64_w, i32_w]; rw [c4b0]) | rw [c4b1] | skip)
      have H' := Aside0.mk H
      clear H
      go_wp2
      go_meet
      case rel => exact ⟨_, (decide ((a1.size : Int) > 2147483647)), (by first | rfl | (simp; done) | (simp [*]; done)), H', ⟨by first | omega | exact Nat.le_refl _⟩, ⟨by repeat (first | (with_reducible first | exact HB.out | apply below_alloc | apply pw_below_drewN | apply below_drew1) | exact HB.out)⟩⟩
  case rest =>
    clear HC3
    try clear p2
    try clear c4
    try clear c4b0
    try clear c4b1
    obtain ⟨kq, x12_2, rfl, HA, HJ2, HB⟩ := hcut
    cases kq with
    | zero => exact absurd HA.out (by simp [laws_FnOverlap.j0])
    | succ kj2 =>
      have H := HA.out
      clear HA
      simp only [laws_FnOverlap.j0] at H
      by_cases c5 : x12_2 = true
      · subst c5
        have H1 : (some true) = some r := by rw [if_pos rfl] at H; exact H
        clear H
        have H := H1
        clear H1
        obtain rfl := Option.some.inj H
        go_wp2
        go_ret
        exact ⟨by first | rfl | (simp [errW_none, errW_some] <;> rfl) | (simp [*, errW_none, errW_some] <;> rfl), by repeat (first | (with_reducible first | exact HB.out | apply below_alloc | apply pw_below_drewN | apply below_drew1) | exact HB.out)⟩
      · replace c5 := Bool.eq_false_iff.mpr c5
        subst c5
        have H1 : (if (a0.size : Int) > 200 then (laws_FnOverlap.j1 kj2 a0 a1 true) else (if (a1.size : Int) > 200 then (laws_FnOverlap.j1 kj2 a0 a1 true) else ((laws_isAsciiText.f kj2 a0).bind fun t105 => (if t105 = true then ((laws_isAsciiText.f kj2 a1).bind fun t106 => (laws_FnOverlap.j1 kj2 a0 a1 (!t106))) else (laws_FnOverlap.j1 kj2 a0 a1 true))))) = some r := by rw [if_neg (show ¬ (false = true) by decide)] at H; exact H
        clear H
        have H := H1
        clear H1
        have HC6 := Aside0.mk H
        clear H
        go_upto_region 3 with (fail)
        go_cut [30] (fun v30 wc => ∃ (kq : Nat) (x30_5 : Bool), v30 = .bool x30_5 ∧ Aside0 (laws_FnOverlap.j1 kq a0 a1 x30_5 = some r) ∧ Aside0 (kq ≤ kj2) ∧ Aside0 (Below w.heap.size w wc))
        case first =>
          have H := HC6.out
          clear HC6
          by_cases c7 : (a0.size : Int) > 200
          · rw [if_pos c7] at H
            have c7b0 : decide (200 < (a0.size : Int)) = true := decide_eq_true c7
            have c7b1 : decide (200 < a0.size) = true := decide_eq_true (by omega)
            clear c7
            (first | rw [c7b0] | (simp only [i64_w, i32_w]; rw [c7b0]) | rw [c7b1] | skip)
            have H' := Aside0.mk H
            clear H
            go_wp2
            go_meet
            case rel => exact ⟨_, (true), (by first | rfl | (simp; done) | (simp [*]; done)), H', ⟨by have := HJ2.out; first | omega | exact Nat.le_refl _⟩, ⟨by repeat (first | (with_reducible first | exact HB.out | apply below_alloc | apply pw_below_drewN | apply below_drew1) | exact HB.out)⟩⟩
          · rw [if_neg c7] at H
            have c7b0 : decide (200 < (a0.size : Int)) = false := decide_eq_false c7
            have c7b1 : decide (200 < a0.size) = false := decide_eq_false (by omega)
            clear c7
            (first | rw [c7b0] | (simp only [i64_w, i32_w]; rw [c7b0]) | rw [c7b1] | skip)
            by_cases c8 : (a1.size : Int) > 200
            · rw [if_pos c8] at H
              have c8b0 : decide (200 < (a1.size : Int)) = true := decide_eq_true c8
              have c8b1 : decide (200 < a1.size) = true := decide_eq_true (by omega)
              clear c8
              have H' := Aside0.mk H
              clear H
              go_wp2
              go_meet
              case rel => exact ⟨_, (true), (by first | rfl | (simp; done) | (simp [*]; done)), H', ⟨by have := HJ2.out; first | omega | exact Nat.le_refl _⟩, ⟨by repeat (first | (with_reducible first | exact HB.out | apply below_alloc | apply pw_below_drewN | apply below_drew1) | exact HB.out)⟩⟩
            · rw [if_neg c8] at H
              have c8b0 : decide (200 < (a1.size : Int)) = false := decide_eq_false c8
              have c8b1 : decide (200 < a1.size) = false := decide_eq_false (by omega)
              clear c8
              replace H := Option.bind_eq_some_iff.mp H
              obtain ⟨t105, A90, H⟩ := H
              replace H : (if t105 = true then ((laws_isAsciiText.f kj2 a1).bind fun t106 => (laws_FnOverlap.j1 kj2 a0 a1 (!t106))) else (laws_FnOverlap.j1 kj2 a0 a1 true)) = some r := H
              have A9 := Aside0.mk A90
              clear A90
              by_cases c10 : t105 = true
              · subst c10
                have H1 : ((laws_isAsciiText.f kj2 a1).bind fun t106 => (laws_FnOverlap.j1 kj2 a0 a1 (!t106))) = some r := by rw [if_pos rfl] at H; exact H
                clear H
                have H := H1
                clear H1
                replace H := Option.bind_eq_some_iff.mp H
                obtain ⟨t106, A110, H⟩ := H
                replace H : (laws_FnOverlap.j1 kj2 a0 a1 (!t106)) = some r := H
                have A11 := Aside0.mk A110
                clear A110
                have H' := Aside0.mk H
                clear H
                go_wp2_with (first | (go_at_call 7; (with_reducible refine (laws_isAsciiText.calls kj2 a0 true _ A9.out).mono ?_); rintro e w' ⟨rfl, ⟨nd, rfl⟩⟩) | (go_at_call 7; (with_reducible refine (laws_isAsciiText.calls kj2 a1 t106 _ A11.out).mono ?_); rintro e w' ⟨rfl, ⟨nd, rfl⟩⟩))
                go_meet
                case rel => exact ⟨_, (!t106), (by first | rfl | (simp; done) | (simp [*]; done)), H', ⟨by have := HJ2.out; first | omega | exact Nat.le_refl _⟩, ⟨by repeat (first | (with_reducible first | exact HB.out | apply below_alloc | apply pw_below_drewN | apply below_drew1) | exact HB.out)⟩⟩
              · replace c10 := Bool.eq_false_iff.mpr c10
                subst c10
                have H1 : (laws_FnOverlap.j1 kj2 a0 a1 true) = some r := by rw [if_neg (show ¬ (false = true) by decide)] at H; exact H
                clear H
                have H := H1
                clear H1
                have H' := Aside0.mk H
                clear H
                go_wp2_with (first | (go_at_call 7; (with_reducible refine (laws_isAsciiText.calls kj2 a0 false _ A9.out).mono ?_); rintro e w' ⟨rfl, ⟨nd, rfl⟩⟩))
                go_meet
                case rel => exact ⟨_, (true), (by first | rfl | (simp; done) | (simp [*]; done)), H', ⟨by have := HJ2.out; first | omega | exact Nat.le_refl _⟩, ⟨by repeat (first | (with_reducible first | exact HB.out | apply below_alloc | apply pw_below_drewN | apply below_drew1) | exact HB.out)⟩⟩
        case rest =>
          clear HC6
          try clear c1
          try clear p2
          try clear c4
          try clear c4b0
          try clear c4b1
          try clear c5
          try clear c7
          try clear c7b0
          try clear c7b1
          try clear c8
          try clear c8b0
          try clear c8b1
          try clear c10
          try clear p2
          obtain ⟨kq, x30_5, rfl, HA, HJ5, HB⟩ := hcut
          cases kq with
          | zero => exact absurd HA.out (by simp [laws_FnOverlap.j1])
          | succ kj5 =>
            have H := HA.out
            clear HA
            simp only [laws_FnOverlap.j1] at H
            by_cases c12 : x30_5 = true
            · subst c12
              have H1 : (some true) = some r := by rw [if_pos rfl] at H; exact H
              clear H
              have H := H1
              clear H1
              obtain rfl := Option.some.inj H
              go_wp2
              go_ret
              exact ⟨by first | rfl | (simp [errW_none, errW_some] <;> rfl) | (simp [*, errW_none, errW_some] <;> rfl), by repeat (first | (with_reducible first | exact HB.out | apply below_alloc | apply pw_below_drewN | apply below_drew1) | exact HB.out)⟩
            · replace c12 := Bool.eq_false_iff.mpr c12
              subst c12
              have H1 : ((impl_Overlap.f kj5 a0 a1).bind fun t107 => ((spec_DiffOverlap.f kj5 a0 a1).bind fun t108 => (if t107 = t108 then ((impl_Overlap.f kj5 (⟨#[97, 98]⟩ : ByteArray) (⟨#[98, 99]⟩ : ByteArray)).bind fun t109 => (some (t109 == 1))) else (some false)))) = some r := by rw [if_neg (show ¬ (false = true) by decide)] at H; exact H
              clear H
              have H := H1
              clear H1
              replace H := Option.bind_eq_some_iff.mp H
              obtain ⟨t107, A130, H⟩ := H
              replace H : ((spec_DiffOverlap.f kj5 a0 a1).bind fun t108 => (if t107 = t108 then ((impl_Overlap.f kj5 (⟨#[97, 98]⟩ : ByteArray) (⟨#[98, 99]⟩ : ByteArray)).bind fun t109 => (some (t109 == 1))) else (some false))) = some r := H
              have A13 := Aside0.mk A130
              clear A130
              replace H := Option.bind_eq_some_iff.mp H
              obtain ⟨t108, A140, H⟩ := H
              replace H : (if t107 = t108 then ((impl_Overlap.f kj5 (⟨#[97, 98]⟩ : ByteArray) (⟨#[98, 99]⟩ : ByteArray)).bind fun t109 => (some (t109 == 1))) else (some false)) = some r := H
              have A14 := Aside0.mk A140
              clear A140
              by_cases c15 : t107 = t108
              · rw [if_pos c15] at H
                have c15b0 : (t107 == t108) = true := beq_iff_eq.mpr c15
                have c15b1 : (t107 != t108) = false := bne_eq_false_iff_eq.mpr c15
                clear c15
                replace H := Option.bind_eq_some_iff.mp H
                obtain ⟨t109, A160, H⟩ := H
                replace H : (some (t109 == 1)) = some r := H
                have A16 := Aside0.mk A160
                clear A160
                obtain rfl := Option.some.inj H
                go_wp2_with (first | ((with_reducible refine gate_callee (f := 8) rfl ?_); refine goesL_ (some 33) rfl rfl Try.func8 (by kernel_rfl) rfl #[.string a0, .string a1] rfl (by (try simp only [List.map_toArray, List.map_cons, List.map_nil]); first | done | rfl | (simp only [List.length_drop, List.length_take]; rfl)) ?_; (with_reducible refine (impl_Overlap.calls kj5 a0 a1 t107 _ A13.out).mono ?_); rintro e w17 ⟨rfl, hb⟩; refine ⟨_, rfl, ?_⟩; have n0_ := Aside0.mk (below_step (by repeat (first | (with_reducible first | exact HB.out | apply below_alloc | apply pw_below_drewN | apply below_drew1) | exact HB.out)) hb); clear HB; have HB := n0_; clear n0_; (try clear hb); (try clear hb2); (try clear hk); (try clear hi)) | ((with_reducible refine gate_callee (f := 9) rfl ?_); refine goesL_ (some 36) rfl rfl Try.func9 (by kernel_rfl) rfl #[.string a0, .string a1] rfl (by (try simp only [List.map_toArray, List.map_cons, List.map_nil]); first | done | rfl | (simp only [List.length_drop, List.length_take]; rfl)) ?_; (with_reducible refine (spec_DiffOverlap.calls kj5 a0 a1 t108 _ A14.out).mono ?_); rintro e w18 ⟨rfl, hb⟩; refine ⟨_, rfl, ?_⟩; have n0_ := Aside0.mk (below_step (by repeat (first | (with_reducible first | exact HB.out | apply below_alloc | apply pw_below_drewN | apply below_drew1) | exact HB.out)) hb); clear HB; have HB := n0_; clear n0_; (try clear hb); (try clear hb2); (try clear hk); (try clear hi)) | (go_at_call 8; (with_reducible refine (impl_Overlap.calls kj5 (⟨#[97, 98]⟩ : ByteArray) (⟨#[98, 99]⟩ : ByteArray) t109 _ A16.out).mono ?_); rintro e w19 ⟨rfl, hb⟩; have n0_ := Aside0.mk (below_step (by repeat (first | (with_reducible first | exact HB.out | apply below_alloc | apply pw_below_drewN | apply below_drew1) | exact HB.out)) hb); clear HB; have HB := n0_; clear n0_; (try clear hb); (try clear hb2); (try clear hk); (try clear hi)))
                go_ret
                exact ⟨by first | rfl | (simp [errW_none, errW_some] <;> rfl) | (simp [*, errW_none, errW_some] <;> rfl), by repeat (first | (with_reducible first | exact HB.out | apply below_alloc | apply pw_below_drewN | apply below_drew1) | exact HB.out)⟩
              · rw [if_neg c15] at H
                have c15b0 : (t107 == t108) = false := beq_eq_false_iff_ne.mpr c15
                have c15b1 : (t107 != t108) = true := bne_iff_ne.mpr c15
                obtain rfl := Option.some.inj H
                go_wp2_with (first | ((with_reducible refine gate_callee (f := 8) rfl ?_); refine goesL_ (some 33) rfl rfl Try.func8 (by kernel_rfl) rfl #[.string a0, .string a1] rfl (by (try simp only [List.map_toArray, List.map_cons, List.map_nil]); first | done | rfl | (simp only [List.length_drop, List.length_take]; rfl)) ?_; (with_reducible refine (impl_Overlap.calls kj5 a0 a1 t107 _ A13.out).mono ?_); rintro e w20 ⟨rfl, hb⟩; refine ⟨_, rfl, ?_⟩; have n0_ := Aside0.mk (below_step (by repeat (first | (with_reducible first | exact HB.out | apply below_alloc | apply pw_below_drewN | apply below_drew1) | exact HB.out)) hb); clear HB; have HB := n0_; clear n0_; (try clear hb); (try clear hb2); (try clear hk); (try clear hi)) | ((with_reducible refine gate_callee (f := 9) rfl ?_); refine goesL_ (some 36) rfl rfl Try.func9 (by kernel_rfl) rfl #[.string a0, .string a1] rfl (by (try simp only [List.map_toArray, List.map_cons, List.map_nil]); first | done | rfl | (simp only [List.length_drop, List.length_take]; rfl)) ?_; (with_reducible refine (spec_DiffOverlap.calls kj5 a0 a1 t108 _ A14.out).mono ?_); rintro e w21 ⟨rfl, hb⟩; refine ⟨_, rfl, ?_⟩; have n0_ := Aside0.mk (below_step (by repeat (first | (with_reducible first | exact HB.out | apply below_alloc | apply pw_below_drewN | apply below_drew1) | exact HB.out)) hb); clear HB; have HB := n0_; clear n0_; (try clear hb); (try clear hb2); (try clear hk); (try clear hi)))
                go_ret
                exact ⟨by first | rfl | (simp [errW_none, errW_some] <;> rfl) | (simp [*, errW_none, errW_some] <;> rfl), by repeat (first | (with_reducible first | exact HB.out | apply below_alloc | apply pw_below_drewN | apply below_drew1) | exact HB.out)⟩

end Go.Proofs.Ytmdgnglgabnhnaa.P
