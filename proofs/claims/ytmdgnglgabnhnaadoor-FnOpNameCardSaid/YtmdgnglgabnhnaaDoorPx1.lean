-- Written by a program of this session (wip/tools): the printer's text for functions of the seat YtmdgnglgabnhnaaDoor. Not trusted: Lean checks it.
import Derived.Test.YtmdgnglgabnhnaaDoorPx0
import Derived.Test.YtmdgnglgabnhnaaDoorXOp
namespace Go.Proofs.YtmdgnglgabnhnaaDoor.P
open Go.RowKit Go.Proofs.YtmdgnglgabnhnaaDoorW.PrintWords Go.Proofs.YtmdgnglgabnhnaaDoorW.PrintLast Go.Proofs.YtmdgnglgabnhnaaDoorW.PrintMore
attribute [local go_sem] max2_int min2_int max_two min_two max_three min_three max_four min_four   -- for this text's walks alone
open Go.Proofs.YtmdgnglgabnhnaaDoorX
set_option linter.unusedVariables false
set_option linter.unusedSimpArgs false

/-! ### impl_OpName: function 27 -/
def impl_OpName.f (a0 : Int) : Option (ByteArray) := (diffmatchpatch_Operation_String.f a0).bind fun t101 => (some t101)
set_option maxHeartbeats 8000000 in
set_option maxRecDepth 100000 in
theorem impl_OpName.calls (a0 : Int) (r : ByteArray) (w : World) (hG_ : Glob w) (h : impl_OpName.f a0 = some r) :
    Calls Tryd.prog 27 #[.int .i8 a0] w fun e w' => e = .returned (.string r) ∧ Below w.heap.size w w' := by
  have HB := Aside0.mk (Below.refl w.heap.size w)
  have H : ((diffmatchpatch_Operation_String.f a0).bind fun t101 => (some t101)) = some r := h
  clear h
  replace H := Option.bind_eq_some_iff.mp H
  obtain ⟨t101, A20, H⟩ := H
  replace H : (some t101) = some r := H
  have A2 := Aside0.mk A20
  clear A20
  obtain rfl := Option.some.inj H
  go_enter Tryd.func27, Tryd.ntmps27
  go_wp2_with (first | ((with_reducible refine gate_callee (f := 44) rfl ?_); refine goesL_ (some 4) rfl rfl Tryd.func44 (by kernel_rfl) rfl #[.int .i8 a0] rfl (by (try simp only [List.map_toArray, List.map_cons, List.map_nil]); first | done | rfl | (simp only [List.length_drop, List.length_take]; rfl)) ?_; (with_reducible refine (diffmatchpatch_Operation_String.calls a0 t101 _ ?side1 A2.out).mono ?_); (case side1 => exact Glob.below hG_ (by repeat (first | (with_reducible first | exact HB.out | apply below_alloc | apply pw_below_drewN | apply below_drew1) | exact HB.out))); rintro e w3 ⟨rfl, hb⟩; refine ⟨_, rfl, ?_⟩; have n0_ := Aside0.mk (below_step (by repeat (first | (with_reducible first | exact HB.out | apply below_alloc | apply pw_below_drewN | apply below_drew1) | exact HB.out)) hb); clear HB; have HB := n0_; clear n0_; (try clear hb); (try clear hb2); (try clear hk); (try clear hi)))
  go_ret
  exact ⟨by first | rfl | (simp [errW_none, errW_some] <;> rfl) | (simp [*, errW_none, errW_some] <;> rfl), by repeat (first | (with_reducible first | exact HB.out | apply below_alloc | apply pw_below_drewN | apply below_drew1) | exact HB.out)⟩

/-! ### spec_DiffOperation: function 28 -/
mutual
def spec_DiffOperation.j0 : Nat → Int → ByteArray → Option (ByteArray)
  | 0, _, _ => none
  | k + 1, x3, x4 => spec_DiffOperation.l0 k x3 x4 (⟨#[]⟩ : ByteArray)
def spec_DiffOperation.l0 : Nat → Int → ByteArray → ByteArray → Option (ByteArray)
  | 0, _, _, _ => none
  | k + 1, x3, x4, x5 => if x3 > 0 then ((some (([(wrap64 (48 + (Int.tmod x3 10))) % 256] : List Int) : List Int)).bind fun y102 => (if (strOfNums y102).size + x5.size ≤ 9223372036854775807 then (spec_DiffOperation.l0 k (wrap64 (Int.tdiv x3 10)) x4 ((strOfNums y102) ++ x5)) else (none))) else (if 10 + x4.size ≤ 9223372036854775807 then (if ((⟨#[79, 112, 101, 114, 97, 116, 105, 111, 110, 40]⟩ : ByteArray) ++ x4).size + x5.size ≤ 9223372036854775807 then (if (((⟨#[79, 112, 101, 114, 97, 116, 105, 111, 110, 40]⟩ : ByteArray) ++ x4) ++ x5).size + 1 ≤ 9223372036854775807 then (some ((((⟨#[79, 112, 101, 114, 97, 116, 105, 111, 110, 40]⟩ : ByteArray) ++ x4) ++ x5) ++ (⟨#[41]⟩ : ByteArray))) else (none)) else (none)) else (none))
end
def spec_DiffOperation.f (k : Nat) (a0 : Int) : Option (ByteArray) := if a0 = (-1) then (some (⟨#[68, 101, 108, 101, 116, 101]⟩ : ByteArray)) else (if a0 = 0 then (some (⟨#[69, 113, 117, 97, 108]⟩ : ByteArray)) else (if a0 = 1 then (some (⟨#[73, 110, 115, 101, 114, 116]⟩ : ByteArray)) else (if (wrap64 (a0)) < 0 then (spec_DiffOperation.j0 k (wrap64 (-(wrap64 (a0)))) (⟨#[45]⟩ : ByteArray)) else (spec_DiffOperation.j0 k (wrap64 (a0)) (⟨#[]⟩ : ByteArray)))))
theorem spec_DiffOperation.mono_l : ∀ k, (∀ y0 y1, LeO (spec_DiffOperation.j0 k y0 y1) (spec_DiffOperation.j0 (k + 1) y0 y1)) ∧ (∀ y0 y1 y2, LeO (spec_DiffOperation.l0 k y0 y1 y2) (spec_DiffOperation.l0 (k + 1) y0 y1 y2))
  | 0 => ⟨fun _ _ r h => by simp [spec_DiffOperation.j0] at h, fun _ _ _ r h => by simp [spec_DiffOperation.l0] at h⟩
  | k + 1 => by
    obtain ⟨ih0, ih1⟩ := spec_DiffOperation.mono_l k
    refine ⟨?_, ?_⟩
    · intro y0 y1
      unfold spec_DiffOperation.j0
      repeat' first
      | (with_reducible exact ih0 _ _)
      | (with_reducible exact ih1 _ _ _)
      | (with_reducible exact LeO.refl _)
      | (with_reducible exact LeO.none _)
      | (with_reducible refine LeO.ite ?_ ?_)
      | (with_reducible refine LeO.bind ?_ (fun _ => ?_))
      | exact ih0 _ _
      | exact ih1 _ _ _
      | exact LeO.none _
      | refine LeO.ite ?_ ?_
      | refine LeO.bind ?_ (fun _ => ?_)
    · intro y0 y1 y2
      unfold spec_DiffOperation.l0
      repeat' first
      | (with_reducible exact ih0 _ _)
      | (with_reducible exact ih1 _ _ _)
      | (with_reducible exact LeO.refl _)
      | (with_reducible exact LeO.none _)
      | (with_reducible refine LeO.ite ?_ ?_)
      | (with_reducible refine LeO.bind ?_ (fun _ => ?_))
      | exact ih0 _ _
      | exact ih1 _ _ _
      | exact LeO.none _
      | refine LeO.ite ?_ ?_
      | refine LeO.bind ?_ (fun _ => ?_)
theorem spec_DiffOperation.mono : ∀ a0 k, LeO (spec_DiffOperation.f k a0) (spec_DiffOperation.f (k + 1) a0) := by
  intro a0 k
  obtain ⟨ih0, ih1⟩ := spec_DiffOperation.mono_l k
  unfold spec_DiffOperation.f
  repeat' first
      | (with_reducible exact ih0 _ _)
      | (with_reducible exact ih1 _ _ _)
      | (with_reducible exact LeO.refl _)
      | (with_reducible exact LeO.none _)
      | (with_reducible refine LeO.ite ?_ ?_)
      | (with_reducible refine LeO.bind ?_ (fun _ => ?_))
      | exact ih0 _ _
      | exact ih1 _ _ _
      | exact LeO.none _
      | refine LeO.ite ?_ ?_
      | refine LeO.bind ?_ (fun _ => ?_)
set_option maxHeartbeats 8000000 in
set_option maxRecDepth 100000 in
theorem spec_DiffOperation.calls (k : Nat) (a0 : Int) (r : ByteArray) (w : World) (h : spec_DiffOperation.f k a0 = some r) :
    Calls Tryd.prog 28 #[.int .i8 a0] w fun e w' => e = .returned (.string r) ∧ Below w.heap.size w w' := by
  have HB := Aside0.mk (Below.refl w.heap.size w)
  have H : (if a0 = (-1) then (some (⟨#[68, 101, 108, 101, 116, 101]⟩ : ByteArray)) else (if a0 = 0 then (some (⟨#[69, 113, 117, 97, 108]⟩ : ByteArray)) else (if a0 = 1 then (some (⟨#[73, 110, 115, 101, 114, 116]⟩ : ByteArray)) else (if (wrap64 (a0)) < 0 then (spec_DiffOperation.j0 k (wrap64 (-(wrap64 (a0)))) (⟨#[45]⟩ : ByteArray)) else (spec_DiffOperation.j0 k (wrap64 (a0)) (⟨#[]⟩ : ByteArray)))))) = some r := h
  clear h
  by_cases c2 : a0 = (-1)
  · rw [if_pos c2] at H
    have c2b0 : (a0 == (-1)) = true := beq_iff_eq.mpr c2
    have c2b1 : (a0 != (-1)) = false := bne_eq_false_iff_eq.mpr c2
    clear c2
    obtain rfl := Option.some.inj H
    go_enter Tryd.func28, Tryd.ntmps28
    go_wp2
    go_ret
    exact ⟨by first | rfl | (simp [errW_none, errW_some] <;> rfl) | (simp [*, errW_none, errW_some] <;> rfl), by repeat (first | (with_reducible first | exact HB.out | apply below_alloc | apply pw_below_drewN | apply below_drew1) | exact HB.out)⟩
  · rw [if_neg c2] at H
    have c2b0 : (a0 == (-1)) = false := beq_eq_false_iff_ne.mpr c2
    have c2b1 : (a0 != (-1)) = true := bne_iff_ne.mpr c2
    by_cases c3 : a0 = 0
    · rw [if_pos c3] at H
      have c3b0 : (a0 == 0) = true := beq_iff_eq.mpr c3
      have c3b1 : (a0 != 0) = false := bne_eq_false_iff_eq.mpr c3
      clear c3
      obtain rfl := Option.some.inj H
      go_enter Tryd.func28, Tryd.ntmps28
      go_wp2
      go_ret
      exact ⟨by first | rfl | (simp [errW_none, errW_some] <;> rfl) | (simp [*, errW_none, errW_some] <;> rfl), by repeat (first | (with_reducible first | exact HB.out | apply below_alloc | apply pw_below_drewN | apply below_drew1) | exact HB.out)⟩
    · rw [if_neg c3] at H
      have c3b0 : (a0 == 0) = false := beq_eq_false_iff_ne.mpr c3
      have c3b1 : (a0 != 0) = true := bne_iff_ne.mpr c3
      by_cases c4 : a0 = 1
      · rw [if_pos c4] at H
        have c4b0 : (a0 == 1) = true := beq_iff_eq.mpr c4
        have c4b1 : (a0 != 1) = false := bne_eq_false_iff_eq.mpr c4
        clear c4
        obtain rfl := Option.some.inj H
        go_enter Tryd.func28, Tryd.ntmps28
        go_wp2
        go_ret
        exact ⟨by first | rfl | (simp [errW_none, errW_some] <;> rfl) | (simp [*, errW_none, errW_some] <;> rfl), by repeat (first | (with_reducible first | exact HB.out | apply below_alloc | apply pw_below_drewN | apply below_drew1) | exact HB.out)⟩
      · rw [if_neg c4] at H
        have c4b0 : (a0 == 1) = false := beq_eq_false_iff_ne.mpr c4
        have c4b1 : (a0 != 1) = true := bne_iff_ne.mpr c4
        have HC5 := Aside0.mk H
        clear H
        go_enter Tryd.func28, Tryd.ntmps28
        go_upto_if 16 with (fail)
        go_cut [3, 4] (fun v3 v4 wc => ∃ (kq : Nat) (x3_4 : Int) (x4_4 : ByteArray), v3 = .int .i64 x3_4 ∧ v4 = .string x4_4 ∧ Aside0 (spec_DiffOperation.j0 kq x3_4 x4_4 = some r) ∧ Aside0 (kq ≤ k) ∧ Aside0 (Below w.heap.size w wc))
        case first =>
          have H := HC5.out
          clear HC5
          by_cases c6 : (wrap64 (a0)) < 0
          · rw [if_pos c6] at H
            have c6b0 : decide ((wrap64 (a0)) < 0) = true := decide_eq_true c6
            clear c6
            (first | rw [c6b0] | (simp only [i64_w, i32_w]; rw [c6b0]) | rw [c6b1] | skip)
            have H' := Aside0.mk H
            clear H
            go_wp2
            go_meet
            case rel => exact ⟨_, (wrap64 (-(wrap64 (a0)))), ((⟨#[45]⟩ : ByteArray)), (by first | rfl | (simp; done) | (simp [*]; done)), (by first | rfl | (simp; done) | (simp [*]; done)), H', ⟨by first | omega | exact Nat.le_refl _⟩, ⟨by repeat (first | (with_reducible first | exact HB.out | apply below_alloc | apply pw_below_drewN | apply below_drew1) | exact HB.out)⟩⟩
          · rw [if_neg c6] at H
            have c6b0 : decide ((wrap64 (a0)) < 0) = false := decide_eq_false c6
            clear c6
            (first | rw [c6b0] | (simp only [i64_w, i32_w]; rw [c6b0]) | rw [c6b1] | skip)
            have H' := Aside0.mk H
            clear H
            go_wp2
            go_meet
            case rel => exact ⟨_, (wrap64 (a0)), ((⟨#[]⟩ : ByteArray)), (by first | rfl | (simp; done) | (simp [*]; done)), (by first | rfl | (simp; done) | (simp [*]; done)), H', ⟨by first | omega | exact Nat.le_refl _⟩, ⟨by repeat (first | (with_reducible first | exact HB.out | apply below_alloc | apply pw_below_drewN | apply below_drew1) | exact HB.out)⟩⟩
        case rest =>
          clear HC5
          try clear c2
          try clear c2b0
          try clear c2b1
          try clear p2
          try clear c3
          try clear c3b0
          try clear c3b1
          try clear c4
          try clear c4b0
          try clear c4b1
          try clear c6
          try clear c6b0
          try clear c6b1
          try clear p6
          obtain ⟨kq, x3_4, x4_4, rfl, rfl, HA, HJ4, HB⟩ := hcut
          cases kq with
          | zero => exact absurd HA.out (by simp [spec_DiffOperation.j0])
          | succ kj4 =>
            have H := HA.out
            clear HA
            simp only [spec_DiffOperation.j0] at H
            have H' := Aside0.mk H
            clear H
            go_wp2
            go_loopg [3, 5] kj4 (fun kq v3 v5 w' => ∃ (x3_2 : Int) (x5_2 : ByteArray), v3 = .int .i64 x3_2 ∧ v5 = .string x5_2 ∧ Aside0 (spec_DiffOperation.l0 kq x3_2 x4_4 x5_2 = some r) ∧ Aside0 (kq ≤ kj4) ∧ Aside0 (Below w.heap.size w w'))
            case atStart => exact ⟨(x3_4), ((⟨#[]⟩ : ByteArray)), (by first | rfl | (simp; done) | (simp [*]; done)), (by first | rfl | (simp; done) | (simp [*]; done)), H', ⟨Nat.le_refl _⟩, ⟨by repeat (first | (with_reducible first | exact HB.out | apply below_alloc | apply pw_below_drewN | apply below_drew1) | exact HB.out)⟩⟩
            case round =>
              clear H'
              try clear c2
              try clear c2b0
              try clear c2b1
              try clear p2
              try clear c3
              try clear c3b0
              try clear c3b1
              try clear c4
              try clear c4b0
              try clear c4b1
              try clear c6
              try clear c6b0
              try clear c6b1
              try clear p6
              try clear p2
              try clear p6
              obtain ⟨x3_2, x5_2, rfl, rfl, HA, HK2, HB⟩ := hrel
              cases gk with
              | zero => exact absurd HA.out (by simp [spec_DiffOperation.l0])
              | succ k2 =>
                have H := HA.out
                clear HA
                simp only [spec_DiffOperation.l0] at H
                by_cases c7 : x3_2 > 0
                · rw [if_pos c7] at H
                  have c7b0 : decide (0 < x3_2) = true := decide_eq_true c7
                  clear c7
                  obtain ⟨y102, hy102⟩ : ∃ y_ : List Int, y_ = (([(wrap64 (48 + (Int.tmod x3_2 10))) % 256] : List Int)) := ⟨_, rfl⟩
                  replace H : (if (strOfNums y102).size + x5_2.size ≤ 9223372036854775807 then (spec_DiffOperation.l0 k2 (wrap64 (Int.tdiv x3_2 10)) x4_4 ((strOfNums y102) ++ x5_2)) else (none)) = some r := by first | (rw [hy102]; with_reducible exact H) | (have H2_ := (Option.bind_some _ _).symm.trans H; rw [hy102]; with_reducible exact H2_) | (have H2_ := (Option.bind_some _ _).symm.trans H; with_reducible exact H2_) | with_reducible exact H | (rw [hy102]; exact H) | exact H
                  have Ny102 := Aside0.mk hy102
                  clear hy102
                  by_cases c8 : (strOfNums y102).size + x5_2.size ≤ 9223372036854775807
                  · rw [if_pos c8] at H
                    have c8b0 := eq_true c8
                    have c8b1 : decide ((strOfNums y102).size + x5_2.size ≤ 9223372036854775807) = true := decide_eq_true c8
                    try have c8b2 : (9223372036854775807 < (strOfNums y102).size + x5_2.size) = False := eq_false (Nat.not_lt.2 c8)
                    (try (have c8b4 := c8b2; simp only [ByteArray.size_append] at c8b4))
                    have H' := Aside0.mk H
                    clear H
                    go_wp2_with (first | ((with_reducible refine gate_dst (N := 25) rfl ?_); refine Kd.R_lit (Kd.int .u8) _ 5 ?hg (N := 25) ?hd (xs := ([(wrap64 (48 + (Int.tmod x3_2 10))) % 256] : List Int)) (inner := [.int .u8 ((wrap64 (48 + (Int.tmod x3_2 10))) % 256)]) (ok := fun _ => True) (okp := fun _ => True) ?hr ?hp (fun _ hk => hk) trivial (Below.refl _ _) (Nat.le_refl _) (by simp) ?_; (case hd => rfl); (case hg => rfl); (case hr => first | (go_simp; done) | (go_simp; rfl)); (case hp => exact (Reps.one (show Kd.M (Kd.int .u8) _ _ _ ((wrap64 (48 + (Int.tmod x3_2 10))) % 256) [.int .u8 ((wrap64 (48 + (Int.tmod x3_2 10))) % 256)] from rfl) (Reps.none _ _))); intro v103 w9 ho10 hb hg_ hnew_; clear hg_ hnew_; (first | rw [← Ny102.out] at ho10 | (simp only [Int.reduceToNat] at ho10; rw [← Ny102.out] at ho10)); have n0_ := Aside0.mk (Kd.R_lower ho10 (below_size (by repeat (first | (with_reducible first | exact HB.out | apply below_alloc | apply pw_below_drewN | apply below_drew1) | exact HB.out)))); have n1_ := Aside0.mk (below_step (by repeat (first | (with_reducible first | exact HB.out | apply below_alloc | apply pw_below_drewN | apply below_drew1) | exact HB.out)) hb); clear HB; have HO104 := n0_; have HB := n1_; clear n0_ n1_; clear hb ho10; have hcv11 := own_string (P := Tryd.prog) Tryd.underlying62 Tryd.underlying5 Tryd.underlying9 (Kd.own_of_R HO104.out)))
                    go_roundg k2
                    case measure => have := HJ4.out; have := HK2.out; omega
                    case rel => exact ⟨(wrap64 (Int.tdiv x3_2 10)), ((strOfNums y102) ++ x5_2), (by first | rfl | (simp; done) | (simp [*]; done)), (by first | rfl | (simp; done) | (simp [*]; done)), H', ⟨by have := HJ4.out; have := HK2.out; omega⟩, ⟨by repeat (first | (with_reducible first | exact HB.out | apply below_alloc | apply pw_below_drewN | apply below_drew1) | exact HB.out)⟩⟩
                  · rw [if_neg c8] at H
                    exact absurd H (by simp)
                · rw [if_neg c7] at H
                  have c7b0 : decide (0 < x3_2) = false := decide_eq_false c7
                  clear c7
                  by_cases c12 : 10 + x4_4.size ≤ 9223372036854775807
                  · rw [if_pos c12] at H
                    have c12b0 := eq_true c12
                    have c12b1 : decide (10 + x4_4.size ≤ 9223372036854775807) = true := decide_eq_true c12
                    try have c12b2 : (9223372036854775807 < 10 + x4_4.size) = False := eq_false (Nat.not_lt.2 c12)
                    (try (have c12b4 := c12b2; simp only [ByteArray.size_append] at c12b4))
                    by_cases c13 : ((⟨#[79, 112, 101, 114, 97, 116, 105, 111, 110, 40]⟩ : ByteArray) ++ x4_4).size + x5_2.size ≤ 9223372036854775807
                    · rw [if_pos c13] at H
                      have c13b0 := eq_true c13
                      have c13b1 : decide (((⟨#[79, 112, 101, 114, 97, 116, 105, 111, 110, 40]⟩ : ByteArray) ++ x4_4).size + x5_2.size ≤ 9223372036854775807) = true := decide_eq_true c13
                      try have c13b2 : (9223372036854775807 < ((⟨#[79, 112, 101, 114, 97, 116, 105, 111, 110, 40]⟩ : ByteArray) ++ x4_4).size + x5_2.size) = False := eq_false (Nat.not_lt.2 c13)
                      (try (have c13b4 := c13b2; simp only [ByteArray.size_append, show (⟨#[79, 112, 101, 114, 97, 116, 105, 111, 110, 40]⟩ : ByteArray).size = 10 from rfl] at c13b4))
                      by_cases c14 : (((⟨#[79, 112, 101, 114, 97, 116, 105, 111, 110, 40]⟩ : ByteArray) ++ x4_4) ++ x5_2).size + 1 ≤ 9223372036854775807
                      · rw [if_pos c14] at H
                        have c14b0 := eq_true c14
                        have c14b1 : decide ((((⟨#[79, 112, 101, 114, 97, 116, 105, 111, 110, 40]⟩ : ByteArray) ++ x4_4) ++ x5_2).size + 1 ≤ 9223372036854775807) = true := decide_eq_true c14
                        try have c14b2 : (9223372036854775807 < (((⟨#[79, 112, 101, 114, 97, 116, 105, 111, 110, 40]⟩ : ByteArray) ++ x4_4) ++ x5_2).size + 1) = False := eq_false (Nat.not_lt.2 c14)
                        (try (have c14b4 := c14b2; simp only [ByteArray.size_append, show (⟨#[79, 112, 101, 114, 97, 116, 105, 111, 110, 40]⟩ : ByteArray).size = 10 from rfl] at c14b4))
                        obtain rfl := Option.some.inj H
                        go_wp2
                        go_ret
                        exact ⟨by first | rfl | (simp [errW_none, errW_some] <;> rfl) | (simp [*, errW_none, errW_some] <;> rfl), by repeat (first | (with_reducible first | exact HB.out | apply below_alloc | apply pw_below_drewN | apply below_drew1) | exact HB.out)⟩
                      · rw [if_neg c14] at H
                        exact absurd H (by simp)
                    · rw [if_neg c13] at H
                      exact absurd H (by simp)
                  · rw [if_neg c12] at H
                    exact absurd H (by simp)

/-! ### laws_FnOpName: function 7 -/
def laws_FnOpName.f (k : Nat) (a0 : Int) : Option (Bool) := (impl_OpName.f a0).bind fun t105 => ((spec_DiffOperation.f k a0).bind fun t106 => (some (t105.toList == t106.toList)))
theorem laws_FnOpName.mono : ∀ a0 k, LeO (laws_FnOpName.f k a0) (laws_FnOpName.f (k + 1) a0) := by
  intro a0 k
  unfold laws_FnOpName.f
  repeat' first
      | (with_reducible exact spec_DiffOperation.mono _ _)
      | (with_reducible exact LeO.refl _)
      | (with_reducible exact LeO.none _)
      | (with_reducible refine LeO.ite ?_ ?_)
      | (with_reducible refine LeO.bind ?_ (fun _ => ?_))
      | exact spec_DiffOperation.mono _ _
      | exact LeO.none _
      | refine LeO.ite ?_ ?_
      | refine LeO.bind ?_ (fun _ => ?_)
set_option maxHeartbeats 8000000 in
set_option maxRecDepth 100000 in
theorem laws_FnOpName.calls (k : Nat) (a0 : Int) (r : Bool) (w : World) (hG_ : Glob w) (h : laws_FnOpName.f k a0 = some r) :
    Calls Tryd.prog 7 #[.int .i8 a0] w fun e w' => e = .returned (.bool r) ∧ Below w.heap.size w w' := by
  have HB := Aside0.mk (Below.refl w.heap.size w)
  have H : ((impl_OpName.f a0).bind fun t105 => ((spec_DiffOperation.f k a0).bind fun t106 => (some (t105.toList == t106.toList)))) = some r := h
  clear h
  replace H := Option.bind_eq_some_iff.mp H
  obtain ⟨t105, A20, H⟩ := H
  replace H : ((spec_DiffOperation.f k a0).bind fun t106 => (some (t105.toList == t106.toList))) = some r := H
  have A2 := Aside0.mk A20
  clear A20
  replace H := Option.bind_eq_some_iff.mp H
  obtain ⟨t106, A30, H⟩ := H
  replace H : (some (t105.toList == t106.toList)) = some r := H
  have A3 := Aside0.mk A30
  clear A30
  obtain rfl := Option.some.inj H
  go_enter Tryd.func7, Tryd.ntmps7
  go_wp2_with (first | ((with_reducible refine gate_callee (f := 27) rfl ?_); refine goesL_ (some 4) rfl rfl Tryd.func27 (by kernel_rfl) rfl #[.int .i8 a0] rfl (by (try simp only [List.map_toArray, List.map_cons, List.map_nil]); first | done | rfl | (simp only [List.length_drop, List.length_take]; rfl)) ?_; (with_reducible refine (impl_OpName.calls a0 t105 _ ?side1 A2.out).mono ?_); (case side1 => exact Glob.below hG_ (by repeat (first | (with_reducible first | exact HB.out | apply below_alloc | apply pw_below_drewN | apply below_drew1) | exact HB.out))); rintro e w4 ⟨rfl, hb⟩; refine ⟨_, rfl, ?_⟩; have n0_ := Aside0.mk (below_step (by repeat (first | (with_reducible first | exact HB.out | apply below_alloc | apply pw_below_drewN | apply below_drew1) | exact HB.out)) hb); clear HB; have HB := n0_; clear n0_; (try clear hb); (try clear hb2); (try clear hk); (try clear hi)) | ((with_reducible refine gate_callee (f := 28) rfl ?_); refine goesL_ (some 6) rfl rfl Tryd.func28 (by kernel_rfl) rfl #[.int .i8 a0] rfl (by (try simp only [List.map_toArray, List.map_cons, List.map_nil]); first | done | rfl | (simp only [List.length_drop, List.length_take]; rfl)) ?_; (with_reducible refine (spec_DiffOperation.calls k a0 t106 _ A3.out).mono ?_); rintro e w5 ⟨rfl, hb⟩; refine ⟨_, rfl, ?_⟩; have n0_ := Aside0.mk (below_step (by repeat (first | (with_reducible first | exact HB.out | apply below_alloc | apply pw_below_drewN | apply below_drew1) | exact HB.out)) hb); clear HB; have HB := n0_; clear n0_; (try clear hb); (try clear hb2); (try clear hk); (try clear hi)))
  go_ret
  exact ⟨by first | rfl | (simp [errW_none, errW_some] <;> rfl) | (simp [*, errW_none, errW_some] <;> rfl), by repeat (first | (with_reducible first | exact HB.out | apply below_alloc | apply pw_below_drewN | apply below_drew1) | exact HB.out)⟩

end Go.Proofs.YtmdgnglgabnhnaaDoor.P
