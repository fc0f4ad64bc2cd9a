-- Written by a program of this session (wip/tools): the printer's text for functions of the seat YtaabfadjemmibaaDoor. Not trusted: Lean checks it.
import Derived.Test.YtaabfadjemmibaaDoorPx0
import Derived.Test.YtaabfadjemmibaaDoorPx3
import Derived.Test.YtaabfadjemmibaaDoorPx4
import Derived.Test.YtaabfadjemmibaaDoorPx7
import Derived.Test.YtaabfadjemmibaaDoorPx8
namespace Go.Proofs.YtaabfadjemmibaaDoor.P
open Go.RowKit Go.Proofs.YtaabfadjemmibaaDoorW.PrintWords Go.Proofs.YtaabfadjemmibaaDoorW.PrintLast Go.Proofs.YtaabfadjemmibaaDoorW.PrintMore
attribute [local go_sem] max2_int min2_int max_two min_two max_three min_three max_four min_four   -- for this text's walks alone
open Go.Proofs.YtaabfadjemmibaaDoorX
set_option linter.unusedVariables false
set_option linter.unusedSimpArgs false
/-! ### spec_CleanShifted: function 24 -/
mutual
def spec_CleanShifted.l0 : Nat → List (S34) → Int → List (S34) → Int → Int → Option (Bool)
 | 0, _, _, _, _, _ => none
 | k + 1, x1, x5, x8, x9, x10 => if x10 < x9 then (if 0 ≤ x10 then (if x10 < (x8.length : Int) then (if ((rd_T34 x8 x10).f0) = 0 then (spec_CleanShifted.l0 k x1 x5 x8 x9 (wrap64 (x10 + 1))) else (spec_CleanShifted.l1 k x1 x5 x8 x9 x10 ((rd_T34 x8 x10).f0) ((rd_T34 x8 x10).f1))) else (none)) else (none)) else (spec_CleanShifted.l2 k x1 x5)
def spec_CleanShifted.l1 : Nat → List (S34) → Int → List (S34) → Int → Int → Int → ByteArray → Option (Bool)
 | 0, _, _, _, _, _, _, _ => none
 | k + 1, x1, x5, x8, x9, x10, x250000, x250001 => if x5 < (x1.length : Int) then (if 0 ≤ x5 then (if ((rd_T34 x1 x5).f0) = 0 then (spec_CleanShifted.l1 k x1 (wrap64 (x5 + 1)) x8 x9 x10 x250000 x250001) else (if x5 = (x1.length : Int) then (some false) else (if ((rd_T34 x1 x5).f0) = x250000 then (if (((rd_T34 x1 x5).f1).size : Int) = (x250001.size : Int) then (spec_CleanShifted.l0 k x1 (wrap64 (x5 + 1)) x8 x9 (wrap64 (x10 + 1))) else (some false)) else (some false)))) else (none)) else (if x5 = (x1.length : Int) then (some false) else (if 0 ≤ x5 then (none) else (none)))
def spec_CleanShifted.l2 : Nat → List (S34) → Int → Option (Bool)
 | 0, _, _ => none
 | k + 1, x1, x5 => if x5 < (x1.length : Int) then (if 0 ≤ x5 then (if ((rd_T34 x1 x5).f0) = 0 then (spec_CleanShifted.l2 k x1 (wrap64 (x5 + 1))) else (some (x5 == (x1.length : Int)))) else (none)) else (some (x5 == (x1.length : Int)))
end
def spec_CleanShifted.f (k : Nat) (l0 : List (S34)) (l1 : List (S34)) : Option (Bool) := spec_CleanShifted.l0 k l1 0 l0 (l0.length : Int) 0
theorem spec_CleanShifted.mono_l : ∀ k, (∀ y0 y1 y2 y3 y4, LeO (spec_CleanShifted.l0 k y0 y1 y2 y3 y4) (spec_CleanShifted.l0 (k + 1) y0 y1 y2 y3 y4)) ∧ (∀ y0 y1 y2 y3 y4 y5 y6, LeO (spec_CleanShifted.l1 k y0 y1 y2 y3 y4 y5 y6) (spec_CleanShifted.l1 (k + 1) y0 y1 y2 y3 y4 y5 y6)) ∧ (∀ y0 y1, LeO (spec_CleanShifted.l2 k y0 y1) (spec_CleanShifted.l2 (k + 1) y0 y1))
 | 0 => ⟨fun _ _ _ _ _ r h => by simp [spec_CleanShifted.l0] at h, fun _ _ _ _ _ _ _ r h => by simp [spec_CleanShifted.l1] at h, fun _ _ r h => by simp [spec_CleanShifted.l2] at h⟩
 | k + 1 => by
  obtain ⟨ih0, ih1, ih2⟩ := spec_CleanShifted.mono_l k
  refine ⟨?_, ?_, ?_⟩
  ·intro y0 y1 y2 y3 y4
   unfold spec_CleanShifted.l0
   repeat' first
   | (with_reducible exact ih0 _ _ _ _ _)
   | (with_reducible exact ih1 _ _ _ _ _ _ _)
   | (with_reducible exact ih2 _ _)
   | (with_reducible exact LeO.refl _)
   | (with_reducible exact LeO.none _)
   | (with_reducible refine LeO.ite ?_ ?_)
   | (with_reducible refine LeO.bind ?_ (fun _ => ?_))
   | exact ih0 _ _ _ _ _
   | exact ih1 _ _ _ _ _ _ _
   | exact ih2 _ _
   | exact LeO.none _
   | refine LeO.ite ?_ ?_
   | refine LeO.bind ?_ (fun _ => ?_)
  ·intro y0 y1 y2 y3 y4 y5 y6
   unfold spec_CleanShifted.l1
   repeat' first
   | (with_reducible exact ih0 _ _ _ _ _)
   | (with_reducible exact ih1 _ _ _ _ _ _ _)
   | (with_reducible exact ih2 _ _)
   | (with_reducible exact LeO.refl _)
   | (with_reducible exact LeO.none _)
   | (with_reducible refine LeO.ite ?_ ?_)
   | (with_reducible refine LeO.bind ?_ (fun _ => ?_))
   | exact ih0 _ _ _ _ _
   | exact ih1 _ _ _ _ _ _ _
   | exact ih2 _ _
   | exact LeO.none _
   | refine LeO.ite ?_ ?_
   | refine LeO.bind ?_ (fun _ => ?_)
  ·intro y0 y1
   unfold spec_CleanShifted.l2
   repeat' first
   | (with_reducible exact ih0 _ _ _ _ _)
   | (with_reducible exact ih1 _ _ _ _ _ _ _)
   | (with_reducible exact ih2 _ _)
   | (with_reducible exact LeO.refl _)
   | (with_reducible exact LeO.none _)
   | (with_reducible refine LeO.ite ?_ ?_)
   | (with_reducible refine LeO.bind ?_ (fun _ => ?_))
   | exact ih0 _ _ _ _ _
   | exact ih1 _ _ _ _ _ _ _
   | exact ih2 _ _
   | exact LeO.none _
   | refine LeO.ite ?_ ?_
   | refine LeO.bind ?_ (fun _ => ?_)
theorem spec_CleanShifted.mono : ∀ a0 a1 k, LeO (spec_CleanShifted.f k a0 a1) (spec_CleanShifted.f (k + 1) a0 a1) := by
 intro a0 a1 k
 obtain ⟨ih0, ih1, ih2⟩ := spec_CleanShifted.mono_l k
 unfold spec_CleanShifted.f
 repeat' first
   | (with_reducible exact ih0 _ _ _ _ _)
   | (with_reducible exact ih1 _ _ _ _ _ _ _)
   | (with_reducible exact ih2 _ _)
   | (with_reducible exact LeO.refl _)
   | (with_reducible exact LeO.none _)
   | (with_reducible refine LeO.ite ?_ ?_)
   | (with_reducible refine LeO.bind ?_ (fun _ => ?_))
   | exact ih0 _ _ _ _ _
   | exact ih1 _ _ _ _ _ _ _
   | exact ih2 _ _
   | exact LeO.none _
   | refine LeO.ite ?_ ?_
   | refine LeO.bind ?_ (fun _ => ?_)
set_option maxHeartbeats 8000000 in
set_option maxRecDepth 100000 in
theorem spec_CleanShifted.calls (k : Nat) (A0 : Option Addr) (c0 : Nat) (l0 : List (S34)) (A1 : Option Addr) (c1 : Nat) (l1 : List (S34)) (r : Bool) (w : World) (hr0 : Kd.C k34 w A0 l0.length l0) (hc0 : l0.length ≤ c0) (hr1 : Kd.C k34 w A1 l1.length l1) (hc1 : l1.length ≤ c1) (h : spec_CleanShifted.f k l0 l1 = some r) :
  Calls Tryd.prog 24 #[.slice A0 l0.length c0, .slice A1 l1.length c1] w fun e w' => e = .returned (.bool r) ∧ Below w.heap.size w w' := by
 have hu34 := Tryd.underlying34
 have HR0 := Aside0.mk hr0
 have HC0 := Aside0.mk hc0
 clear hr0 hc0
 have HR1 := Aside0.mk hr1
 have HC1 := Aside0.mk hc1
 clear hr1 hc1
 have HB := Aside0.mk (Below.refl w.heap.size w)
 have H : (spec_CleanShifted.l0 k l1 0 l0 (l0.length : Int) 0) = some r := h
 clear h
 have H' := Aside0.mk H
 clear H
 go_enter Tryd.func24, Tryd.ntmps24
 go_wp2
 repeat (go_quiet (fail); try go_wp2)
 go_loopg [5, 10] k (fun kq v5 v10 w' => ∃ (x5_1 : Int) (x10_1 : Int), v5 = .int .i64 x5_1 ∧ v10 = .int .i64 x10_1 ∧ Aside0 (spec_CleanShifted.l0 kq l1 x5_1 l0 (l0.length : Int) x10_1 = some r) ∧ Aside0 (kq ≤ k) ∧ Aside0 (Below w.heap.size w w'))
 case atStart => exact ⟨(0), (0), (by first | rfl | (simp; done) | (simp [*]; done)), (by first | rfl | (simp; done) | (simp [*]; done)), H', ⟨Nat.le_refl _⟩, ⟨by repeat (first | (with_reducible first | exact HB.out | apply below_alloc | apply pw_below_drewN | apply below_drew1) | exact HB.out)⟩⟩
 case round => as_aux_lemma =>
   clear H'
   try clear c1
   try clear c2
   try clear p2
   obtain ⟨x5_1, x10_1, rfl, rfl, HA, HK1, HB⟩ := hrel
   cases gk with
   | zero => exact absurd HA.out (by simp [spec_CleanShifted.l0])
   | succ k1 =>
    have H := HA.out
    clear HA
    simp only [spec_CleanShifted.l0] at H
    by_cases c3 : x10_1 < (l0.length : Int)
    case neg =>
     rw [if_neg c3] at H
     have c3b0 : decide (x10_1 < (l0.length : Int)) = false := decide_eq_false c3
     clear c3
     have H' := Aside0.mk H
     clear H
     go_wp2
     repeat (go_quiet (fail); try go_wp2)
     go_loopg [5] k1 (fun kq v5 w' => ∃ (x5_2 : Int), v5 = .int .i64 x5_2 ∧ Aside0 (spec_CleanShifted.l2 kq l1 x5_2 = some r) ∧ Aside0 (kq ≤ k1) ∧ Aside0 (Below w.heap.size w w'))
     case atStart => exact ⟨(x5_1), (by first | rfl | (simp; done) | (simp [*]; done)), H', ⟨Nat.le_refl _⟩, ⟨by repeat (first | (with_reducible first | exact HB.out | apply below_alloc | apply pw_below_drewN | apply below_drew1) | exact HB.out)⟩⟩
     case round =>
      clear H'
      try clear c1
      try clear c2
      try clear p2
      try clear q2
      try clear hx2
      try clear c3
      try clear c3b0
      try clear c4
      try clear c4b0
      try clear c5
      try clear c5b0
      try clear c6
      try clear c6b0
      try clear c6b1
      try clear p6
      try clear c11
      try clear c11b0
      try clear c12
      try clear c12b0
      try clear c13
      try clear c13b0
      try clear c13b1
      try clear c14
      try clear c14b0
      try clear c14b1
      try clear c15
      try clear c15b0
      try clear c15b1
      try clear c16
      try clear c16b0
      try clear c16b1
      try clear c16b2
      try clear c20
      try clear c20b0
      try clear c20b1
      try clear c21
      try clear hcz10_0
      try clear hcz10_1
      try clear hcz17_0
      try clear hcz17_1
      try clear hcz18_0
      try clear hcz18_1
      try clear hcz19_0
      try clear hcz19_1
      try clear hcz8_0
      try clear hcz8_1
      try clear hfz10_0
      try clear hfz10_1
      try clear hfz17_0
      try clear hfz17_1
      try clear hfz18_0
      try clear hfz18_1
      try clear hfz19_0
      try clear hfz19_1
      try clear hfz8_0
      try clear hfz8_1
      try clear hx248_0
      try clear hx248_1
      try clear hx250_0
      try clear hx250_1
      try clear hx251_0
      try clear hx251_1
      try clear hx252_0
      try clear hx252_1
      try clear p2
      try clear p248
      try clear p250
      try clear p251
      try clear p252
      try clear p6
      try clear q2
      try clear q248
      try clear q250
      try clear q251
      try clear q252
      obtain ⟨x5_2, rfl, HA, HK2, HB⟩ := hrel
      cases gk with
      | zero => exact absurd HA.out (by simp [spec_CleanShifted.l2])
      | succ k2 =>
       have H := HA.out
       clear HA
       simp only [spec_CleanShifted.l2] at H
       by_cases c22 : x5_2 < (l1.length : Int)
       case neg =>
        rw [if_neg c22] at H
        have c22b0 : decide (x5_2 < (l1.length : Int)) = false := decide_eq_false c22
        clear c22
        obtain rfl := Option.some.inj H
        go_wp2
        repeat (go_quiet (fail); try go_wp2)
        go_ret
        exact ⟨by first | rfl | (simp [errW_none, errW_some] <;> rfl) | (simp [*, errW_none, errW_some] <;> rfl), by repeat (first | (with_reducible first | exact HB.out | apply below_alloc | apply pw_below_drewN | apply below_drew1) | exact HB.out)⟩
       rw [if_pos c22] at H
       have c22b0 : decide (x5_2 < (l1.length : Int)) = true := decide_eq_true c22
       clear c22
       by_cases c23 : 0 ≤ x5_2
       case neg =>
        rw [if_neg c23] at H
        exact absurd H (by simp)
       rw [if_pos c23] at H
       have c23b0 : decide (0 ≤ x5_2) = true := decide_eq_true c23
       clear c23
       by_cases c24 : ((rd_T34 l1 x5_2).f0) = 0
       case neg =>
        rw [if_neg c24] at H
        have c24b0 : (((rd_T34 l1 x5_2).f0) == 0) = false := beq_eq_false_iff_ne.mpr c24
        have c24b1 : (((rd_T34 l1 x5_2).f0) != 0) = true := bne_iff_ne.mpr c24
        obtain rfl := Option.some.inj H
        have p253 : 0 ≤ (x5_2 : Int) := of_decide_eq_true (by first | (with_reducible assumption) | assumption)
        have q253 : x5_2 < (l1.length : Int) := of_decide_eq_true (by first | (with_reducible assumption) | assumption)
        obtain ⟨ad253, e253, hx253_0, hx253_1⟩ := at_T34 HR1.out x5_2 p253 q253
        cases e253
        replace hx253_0 := (HB.out.cell (World.block_lt_of_cell? w _ hx253_0)).trans hx253_0
        replace hx253_1 := (HB.out.cell (World.block_lt_of_cell? w _ hx253_1)).trans hx253_1
        replace p253 := eq_true p253
        replace q253 := eq_true q253
        go_wp2
        repeat (go_quiet (fail); try go_wp2)
        go_ret
        exact ⟨by first | rfl | (simp [errW_none, errW_some] <;> rfl) | (simp [*, errW_none, errW_some] <;> rfl), by repeat (first | (with_reducible first | exact HB.out | apply below_alloc | apply pw_below_drewN | apply below_drew1) | exact HB.out)⟩
       rw [if_pos c24] at H
       have c24b0 : (((rd_T34 l1 x5_2).f0) == 0) = true := beq_iff_eq.mpr c24
       have c24b1 : (((rd_T34 l1 x5_2).f0) != 0) = false := bne_eq_false_iff_eq.mpr c24
       clear c24
       have H' := Aside0.mk H
       clear H
       have p253 : 0 ≤ (x5_2 : Int) := of_decide_eq_true (by first | (with_reducible assumption) | assumption)
       have q253 : x5_2 < (l1.length : Int) := of_decide_eq_true (by first | (with_reducible assumption) | assumption)
       obtain ⟨ad253, e253, hx253_0, hx253_1⟩ := at_T34 HR1.out x5_2 p253 q253
       cases e253
       replace hx253_0 := (HB.out.cell (World.block_lt_of_cell? w _ hx253_0)).trans hx253_0
       replace hx253_1 := (HB.out.cell (World.block_lt_of_cell? w _ hx253_1)).trans hx253_1
       replace p253 := eq_true p253
       replace q253 := eq_true q253
       go_wp2
       repeat (go_quiet (fail); try go_wp2)
       go_roundg k2
       case measure => have := HK1.out; have := HK2.out; omega
       case rel => exact ⟨(wrap64 (x5_2 + 1)), (by first | rfl | (simp; done) | (simp [*]; done)), H', ⟨by have := HK1.out; have := HK2.out; omega⟩, ⟨by repeat (first | (with_reducible first | exact HB.out | apply below_alloc | apply pw_below_drewN | apply below_drew1) | exact HB.out)⟩⟩
    rw [if_pos c3] at H
    have c3b0 : decide (x10_1 < (l0.length : Int)) = true := decide_eq_true c3
    clear c3
    by_cases c4 : 0 ≤ x10_1
    case neg =>
     rw [if_neg c4] at H
     exact absurd H (by simp)
    rw [if_pos c4] at H
    have c4b0 : decide (0 ≤ x10_1) = true := decide_eq_true c4
    clear c4
    by_cases c5 : x10_1 < (l0.length : Int)
    case neg =>
     rw [if_neg c5] at H
     exact absurd H (by simp)
    rw [if_pos c5] at H
    have c5b0 : decide (x10_1 < (l0.length : Int)) = true := decide_eq_true c5
    clear c5
    by_cases c6 : ((rd_T34 l0 x10_1).f0) = 0
    ·rw [if_pos c6] at H
     have c6b0 : (((rd_T34 l0 x10_1).f0) == 0) = true := beq_iff_eq.mpr c6
     have c6b1 : (((rd_T34 l0 x10_1).f0) != 0) = false := bne_eq_false_iff_eq.mpr c6
     clear c6
     have H' := Aside0.mk H
     clear H
     have p248 : 0 ≤ (x10_1 : Int) := of_decide_eq_true (by first | (with_reducible assumption) | assumption)
     have q248 : x10_1 < (l0.length : Int) := of_decide_eq_true (by first | (with_reducible assumption) | assumption)
     obtain ⟨ad248, e248, hx248_0, hx248_1⟩ := at_T34 HR0.out x10_1 p248 q248
     cases e248
     replace hx248_0 := (HB.out.cell (World.block_lt_of_cell? w _ hx248_0)).trans hx248_0
     replace hx248_1 := (HB.out.cell (World.block_lt_of_cell? w _ hx248_1)).trans hx248_1
     replace p248 := eq_true p248
     replace q248 := eq_true q248
     go_wp2_with (first | ((with_reducible refine gate_dst (N := 7) rfl ?_); (try (refine gate_guard (by rfl) ?_; dsimp only)); refine box_event ?hg (N := 7) ?hd (cs := #[.int .i64 0, .string (⟨#[]⟩ : ByteArray)]) (t := 34) ?hr ?_; (case hd => rfl); (case hg => rfl); (case hr => first | (go_simp; done) | (go_simp; rfl)); intro gb249 hg w7 hbox hb; have n0_ := Aside0.mk (below_step (by repeat (first | (with_reducible first | exact HB.out | apply below_alloc | apply pw_below_drewN | apply below_drew1) | exact HB.out)) hb); have n1_ := Aside0.mk (hbox); have n2_ := Aside0.mk ((by rw [hg]; exact (below_size (by repeat (first | (with_reducible first | exact HB.out | apply below_alloc | apply pw_below_drewN | apply below_drew1) | exact HB.out))) : w.heap.size ≤ gb249)); have n3_ := Aside0.mk ((by rw [hg]; exact (below_size (by repeat (first | (with_reducible first | exact HB.out | apply below_alloc | apply pw_below_drewN | apply below_drew1) | exact HB.out))) : w.heap.size ≤ gb249)); clear HB; have HB := n0_; have BK249 := n1_; have GW249 := n2_; have GE249 := n3_; clear n0_ n1_ n2_ n3_; clear hb hbox hg; have hcz8_0 : w7.cell? ⟨gb249, 0, none⟩ = some (.int .i64 0) := (blk_cell BK249.out 0).trans rfl; have hcz8_1 : w7.cell? ⟨gb249, 1, none⟩ = some (.string (⟨#[]⟩ : ByteArray)) := (blk_cell BK249.out 1).trans rfl; have hfz8_0 := blk_frozen BK249.out 0; have hfz8_1 := blk_frozen BK249.out 1))
     repeat (go_quiet (first | ((with_reducible refine gate_dst (N := 7) rfl ?_); (try (refine gate_guard (by rfl) ?_; dsimp only)); refine box_event ?hg (N := 7) ?hd (cs := #[.int .i64 0, .string (⟨#[]⟩ : ByteArray)]) (t := 34) ?hr ?_; (case hd => rfl); (case hg => rfl); (case hr => first | (go_simp; done) | (go_simp; rfl)); intro gb249 hg w7 hbox hb; have n0_ := Aside0.mk (below_step (by repeat (first | (with_reducible first | exact HB.out | apply below_alloc | apply pw_below_drewN | apply below_drew1) | exact HB.out)) hb); have n1_ := Aside0.mk (hbox); have n2_ := Aside0.mk ((by rw [hg]; exact (below_size (by repeat (first | (with_reducible first | exact HB.out | apply below_alloc | apply pw_below_drewN | apply below_drew1) | exact HB.out))) : w.heap.size ≤ gb249)); have n3_ := Aside0.mk ((by rw [hg]; exact (below_size (by repeat (first | (with_reducible first | exact HB.out | apply below_alloc | apply pw_below_drewN | apply below_drew1) | exact HB.out))) : w.heap.size ≤ gb249)); clear HB; have HB := n0_; have BK249 := n1_; have GW249 := n2_; have GE249 := n3_; clear n0_ n1_ n2_ n3_; clear hb hbox hg; have hcz8_0 : w7.cell? ⟨gb249, 0, none⟩ = some (.int .i64 0) := (blk_cell BK249.out 0).trans rfl; have hcz8_1 : w7.cell? ⟨gb249, 1, none⟩ = some (.string (⟨#[]⟩ : ByteArray)) := (blk_cell BK249.out 1).trans rfl; have hfz8_0 := blk_frozen BK249.out 0; have hfz8_1 := blk_frozen BK249.out 1)); try go_wp2_with (first | ((with_reducible refine gate_dst (N := 7) rfl ?_); (try (refine gate_guard (by rfl) ?_; dsimp only)); refine box_event ?hg (N := 7) ?hd (cs := #[.int .i64 0, .string (⟨#[]⟩ : ByteArray)]) (t := 34) ?hr ?_; (case hd => rfl); (case hg => rfl); (case hr => first | (go_simp; done) | (go_simp; rfl)); intro gb249 hg w7 hbox hb; have n0_ := Aside0.mk (below_step (by repeat (first | (with_reducible first | exact HB.out | apply below_alloc | apply pw_below_drewN | apply below_drew1) | exact HB.out)) hb); have n1_ := Aside0.mk (hbox); have n2_ := Aside0.mk ((by rw [hg]; exact (below_size (by repeat (first | (with_reducible first | exact HB.out | apply below_alloc | apply pw_below_drewN | apply below_drew1) | exact HB.out))) : w.heap.size ≤ gb249)); have n3_ := Aside0.mk ((by rw [hg]; exact (below_size (by repeat (first | (with_reducible first | exact HB.out | apply below_alloc | apply pw_below_drewN | apply below_drew1) | exact HB.out))) : w.heap.size ≤ gb249)); clear HB; have HB := n0_; have BK249 := n1_; have GW249 := n2_; have GE249 := n3_; clear n0_ n1_ n2_ n3_; clear hb hbox hg; have hcz8_0 : w7.cell? ⟨gb249, 0, none⟩ = some (.int .i64 0) := (blk_cell BK249.out 0).trans rfl; have hcz8_1 : w7.cell? ⟨gb249, 1, none⟩ = some (.string (⟨#[]⟩ : ByteArray)) := (blk_cell BK249.out 1).trans rfl; have hfz8_0 := blk_frozen BK249.out 0; have hfz8_1 := blk_frozen BK249.out 1)))
     go_roundg k1
     case measure => have := HK1.out; omega
     case rel => exact ⟨(x5_1), (wrap64 (x10_1 + 1)), (by first | rfl | (simp; done) | (simp [*]; done)), (by first | rfl | (simp; done) | (simp [*]; done)), H', ⟨by have := HK1.out; omega⟩, ⟨by repeat (first | (with_reducible first | exact HB.out | apply below_alloc | apply pw_below_drewN | apply below_drew1 | refine below_set ?_ GE249.out) | exact HB.out)⟩⟩
    as_aux_lemma =>
     rw [if_neg c6] at H
     have c6b0 : (((rd_T34 l0 x10_1).f0) == 0) = false := beq_eq_false_iff_ne.mpr c6
     have c6b1 : (((rd_T34 l0 x10_1).f0) != 0) = true := bne_iff_ne.mpr c6
     have H' := Aside0.mk H
     clear H
     have p248 : 0 ≤ (x10_1 : Int) := of_decide_eq_true (by first | (with_reducible assumption) | assumption)
     have q248 : x10_1 < (l0.length : Int) := of_decide_eq_true (by first | (with_reducible assumption) | assumption)
     obtain ⟨ad248, e248, hx248_0, hx248_1⟩ := at_T34 HR0.out x10_1 p248 q248
     cases e248
     replace hx248_0 := (HB.out.cell (World.block_lt_of_cell? w _ hx248_0)).trans hx248_0
     replace hx248_1 := (HB.out.cell (World.block_lt_of_cell? w _ hx248_1)).trans hx248_1
     replace p248 := eq_true p248
     replace q248 := eq_true q248
     go_wp2_with (first | ((with_reducible refine gate_dst (N := 7) rfl ?_); (try (refine gate_guard (by rfl) ?_; dsimp only)); refine box_event ?hg (N := 7) ?hd (cs := #[.int .i64 0, .string (⟨#[]⟩ : ByteArray)]) (t := 34) ?hr ?_; (case hd => rfl); (case hg => rfl); (case hr => first | (go_simp; done) | (go_simp; rfl)); intro gb249 hg w9 hbox hb; have n0_ := Aside0.mk (below_step (by repeat (first | (with_reducible first | exact HB.out | apply below_alloc | apply pw_below_drewN | apply below_drew1) | exact HB.out)) hb); have n1_ := Aside0.mk (hbox); have n2_ := Aside0.mk ((by rw [hg]; exact (below_size (by repeat (first | (with_reducible first | exact HB.out | apply below_alloc | apply pw_below_drewN | apply below_drew1) | exact HB.out))) : w.heap.size ≤ gb249)); have n3_ := Aside0.mk ((by rw [hg]; exact (below_size (by repeat (first | (with_reducible first | exact HB.out | apply below_alloc | apply pw_below_drewN | apply below_drew1) | exact HB.out))) : w.heap.size ≤ gb249)); clear HB; have HB := n0_; have BK249 := n1_; have GW249 := n2_; have GE249 := n3_; clear n0_ n1_ n2_ n3_; clear hb hbox hg; have hcz10_0 : w9.cell? ⟨gb249, 0, none⟩ = some (.int .i64 0) := (blk_cell BK249.out 0).trans rfl; have hcz10_1 : w9.cell? ⟨gb249, 1, none⟩ = some (.string (⟨#[]⟩ : ByteArray)) := (blk_cell BK249.out 1).trans rfl; have hfz10_0 := blk_frozen BK249.out 0; have hfz10_1 := blk_frozen BK249.out 1))
     repeat (go_quiet (first | ((with_reducible refine gate_dst (N := 7) rfl ?_); (try (refine gate_guard (by rfl) ?_; dsimp only)); refine box_event ?hg (N := 7) ?hd (cs := #[.int .i64 0, .string (⟨#[]⟩ : ByteArray)]) (t := 34) ?hr ?_; (case hd => rfl); (case hg => rfl); (case hr => first | (go_simp; done) | (go_simp; rfl)); intro gb249 hg w9 hbox hb; have n0_ := Aside0.mk (below_step (by repeat (first | (with_reducible first | exact HB.out | apply below_alloc | apply pw_below_drewN | apply below_drew1) | exact HB.out)) hb); have n1_ := Aside0.mk (hbox); have n2_ := Aside0.mk ((by rw [hg]; exact (below_size (by repeat (first | (with_reducible first | exact HB.out | apply below_alloc | apply pw_below_drewN | apply below_drew1) | exact HB.out))) : w.heap.size ≤ gb249)); have n3_ := Aside0.mk ((by rw [hg]; exact (below_size (by repeat (first | (with_reducible first | exact HB.out | apply below_alloc | apply pw_below_drewN | apply below_drew1) | exact HB.out))) : w.heap.size ≤ gb249)); clear HB; have HB := n0_; have BK249 := n1_; have GW249 := n2_; have GE249 := n3_; clear n0_ n1_ n2_ n3_; clear hb hbox hg; have hcz10_0 : w9.cell? ⟨gb249, 0, none⟩ = some (.int .i64 0) := (blk_cell BK249.out 0).trans rfl; have hcz10_1 : w9.cell? ⟨gb249, 1, none⟩ = some (.string (⟨#[]⟩ : ByteArray)) := (blk_cell BK249.out 1).trans rfl; have hfz10_0 := blk_frozen BK249.out 0; have hfz10_1 := blk_frozen BK249.out 1)); try go_wp2_with (first | ((with_reducible refine gate_dst (N := 7) rfl ?_); (try (refine gate_guard (by rfl) ?_; dsimp only)); refine box_event ?hg (N := 7) ?hd (cs := #[.int .i64 0, .string (⟨#[]⟩ : ByteArray)]) (t := 34) ?hr ?_; (case hd => rfl); (case hg => rfl); (case hr => first | (go_simp; done) | (go_simp; rfl)); intro gb249 hg w9 hbox hb; have n0_ := Aside0.mk (below_step (by repeat (first | (with_reducible first | exact HB.out | apply below_alloc | apply pw_below_drewN | apply below_drew1) | exact HB.out)) hb); have n1_ := Aside0.mk (hbox); have n2_ := Aside0.mk ((by rw [hg]; exact (below_size (by repeat (first | (with_reducible first | exact HB.out | apply below_alloc | apply pw_below_drewN | apply below_drew1) | exact HB.out))) : w.heap.size ≤ gb249)); have n3_ := Aside0.mk ((by rw [hg]; exact (below_size (by repeat (first | (with_reducible first | exact HB.out | apply below_alloc | apply pw_below_drewN | apply below_drew1) | exact HB.out))) : w.heap.size ≤ gb249)); clear HB; have HB := n0_; have BK249 := n1_; have GW249 := n2_; have GE249 := n3_; clear n0_ n1_ n2_ n3_; clear hb hbox hg; have hcz10_0 : w9.cell? ⟨gb249, 0, none⟩ = some (.int .i64 0) := (blk_cell BK249.out 0).trans rfl; have hcz10_1 : w9.cell? ⟨gb249, 1, none⟩ = some (.string (⟨#[]⟩ : ByteArray)) := (blk_cell BK249.out 1).trans rfl; have hfz10_0 := blk_frozen BK249.out 0; have hfz10_1 := blk_frozen BK249.out 1)))
     go_loopg [5] k1 (fun kq v5 w' => ∃ (x5_2 : Int), v5 = .int .i64 x5_2 ∧ Aside0 (spec_CleanShifted.l1 kq l1 x5_2 l0 (l0.length : Int) x10_1 ((rd_T34 l0 x10_1).f0) ((rd_T34 l0 x10_1).f1) = some r) ∧ Aside0 (kq ≤ k1) ∧ Aside0 (w'.heap[gb249]? = some (.cells #[.int .i64 ((rd_T34 l0 x10_1).f0), .string ((rd_T34 l0 x10_1).f1)] 34 (0, 0))) ∧ Aside0 (Below w.heap.size w w'))
     case atStart => exact ⟨(x5_1), (by first | rfl | (simp; done) | (simp [*]; done)), H', ⟨Nat.le_refl _⟩, ⟨by (with_reducible repeat (first | refine blk_drewN ?_ _ | refine blk_drew ?_ | refine blk_alloc ?_ _)); refine blk_put (cs := #[.int .i64 ((rd_T34 l0 x10_1).f0), .string (⟨#[]⟩ : ByteArray)]) ?_ 1 _ rfl; (with_reducible repeat (first | refine blk_drewN ?_ _ | refine blk_drew ?_ | refine blk_alloc ?_ _)); refine blk_put (cs := #[.int .i64 0, .string (⟨#[]⟩ : ByteArray)]) ?_ 0 _ rfl; (with_reducible repeat (first | refine blk_drewN ?_ _ | refine blk_drew ?_ | refine blk_alloc ?_ _)); exact BK249.out⟩, ⟨by repeat (first | (with_reducible first | exact HB.out | apply below_alloc | apply pw_below_drewN | apply below_drew1 | refine below_set ?_ GE249.out) | exact HB.out)⟩⟩
     case round =>
      clear H'
      try clear c1
      try clear c2
      try clear p2
      try clear q2
      try clear hx2
      try clear c3
      try clear c3b0
      try clear c4
      try clear c4b0
      try clear c5
      try clear c5b0
      try clear c6
      try clear c6b0
      try clear c6b1
      try clear p6
      try clear hcz10_0
      try clear hcz10_1
      try clear hcz8_0
      try clear hcz8_1
      try clear hfz10_0
      try clear hfz10_1
      try clear hfz8_0
      try clear hfz8_1
      try clear hx248_0
      try clear hx248_1
      try clear p2
      try clear p248
      try clear q248
      obtain ⟨x5_2, rfl, HA, HK2, BK249, HB⟩ := hrel
      cases gk with
      | zero => exact absurd HA.out (by simp [spec_CleanShifted.l1])
      | succ k2 =>
       have H := HA.out
       clear HA
       simp only [spec_CleanShifted.l1] at H
       by_cases c11 : x5_2 < (l1.length : Int)
       case neg =>
        rw [if_neg c11] at H
        have c11b0 : decide (x5_2 < (l1.length : Int)) = false := decide_eq_false c11
        clear c11
        by_cases c20 : x5_2 = (l1.length : Int)
        case neg =>
         rw [if_neg c20] at H
         have c20b0 : (x5_2 == (l1.length : Int)) = false := beq_eq_false_iff_ne.mpr c20
         have c20b1 : (x5_2 != (l1.length : Int)) = true := bne_iff_ne.mpr c20
         by_cases c21 : 0 ≤ x5_2
         ·rw [if_pos c21] at H
          exact absurd H (by simp)
         rw [if_neg c21] at H
         exact absurd H (by simp)
        rw [if_pos c20] at H
        have c20b0 : (x5_2 == (l1.length : Int)) = true := beq_iff_eq.mpr c20
        have c20b1 : (x5_2 != (l1.length : Int)) = false := bne_eq_false_iff_eq.mpr c20
        clear c20
        obtain rfl := Option.some.inj H
        go_wp2
        repeat (go_quiet (fail); try go_wp2)
        go_ret
        exact ⟨by first | rfl | (simp [errW_none, errW_some] <;> rfl) | (simp [*, errW_none, errW_some] <;> rfl), by repeat (first | (with_reducible first | exact HB.out | apply below_alloc | apply pw_below_drewN | apply below_drew1 | refine below_set ?_ GE249.out) | exact HB.out)⟩
       rw [if_pos c11] at H
       have c11b0 : decide (x5_2 < (l1.length : Int)) = true := decide_eq_true c11
       clear c11
       by_cases c12 : 0 ≤ x5_2
       case neg =>
        rw [if_neg c12] at H
        exact absurd H (by simp)
       rw [if_pos c12] at H
       have c12b0 : decide (0 ≤ x5_2) = true := decide_eq_true c12
       clear c12
       by_cases c13 : ((rd_T34 l1 x5_2).f0) = 0
       ·rw [if_pos c13] at H
        have c13b0 : (((rd_T34 l1 x5_2).f0) == 0) = true := beq_iff_eq.mpr c13
        have c13b1 : (((rd_T34 l1 x5_2).f0) != 0) = false := bne_eq_false_iff_eq.mpr c13
        clear c13
        have H' := Aside0.mk H
        clear H
        have p250 : 0 ≤ (x5_2 : Int) := of_decide_eq_true (by first | (with_reducible assumption) | assumption)
        have q250 : x5_2 < (l1.length : Int) := of_decide_eq_true (by first | (with_reducible assumption) | assumption)
        obtain ⟨ad250, e250, hx250_0, hx250_1⟩ := at_T34 HR1.out x5_2 p250 q250
        cases e250
        replace hx250_0 := (HB.out.cell (World.block_lt_of_cell? w _ hx250_0)).trans hx250_0
        replace hx250_1 := (HB.out.cell (World.block_lt_of_cell? w _ hx250_1)).trans hx250_1
        replace p250 := eq_true p250
        replace q250 := eq_true q250
        go_wp2
        repeat (go_quiet (fail); try go_wp2)
        go_roundg k2
        case measure => have := HK1.out; have := HK2.out; omega
        case rel => exact ⟨(wrap64 (x5_2 + 1)), (by first | rfl | (simp; done) | (simp [*]; done)), H', ⟨by have := HK1.out; have := HK2.out; omega⟩, ⟨by (with_reducible repeat (first | refine blk_drewN ?_ _ | refine blk_drew ?_ | refine blk_alloc ?_ _)); exact BK249.out⟩, ⟨by repeat (first | (with_reducible first | exact HB.out | apply below_alloc | apply pw_below_drewN | apply below_drew1 | refine below_set ?_ GE249.out) | exact HB.out)⟩⟩
       rw [if_neg c13] at H
       have c13b0 : (((rd_T34 l1 x5_2).f0) == 0) = false := beq_eq_false_iff_ne.mpr c13
       have c13b1 : (((rd_T34 l1 x5_2).f0) != 0) = true := bne_iff_ne.mpr c13
       by_cases c14 : x5_2 = (l1.length : Int)
       ·rw [if_pos c14] at H
        have c14b0 : (x5_2 == (l1.length : Int)) = true := beq_iff_eq.mpr c14
        have c14b1 : (x5_2 != (l1.length : Int)) = false := bne_eq_false_iff_eq.mpr c14
        clear c14
        obtain rfl := Option.some.inj H
        have p250 : 0 ≤ (x5_2 : Int) := of_decide_eq_true (by first | (with_reducible assumption) | assumption)
        have q250 : x5_2 < (l1.length : Int) := of_decide_eq_true (by first | (with_reducible assumption) | assumption)
        obtain ⟨ad250, e250, hx250_0, hx250_1⟩ := at_T34 HR1.out x5_2 p250 q250
        cases e250
        replace hx250_0 := (HB.out.cell (World.block_lt_of_cell? w _ hx250_0)).trans hx250_0
        replace hx250_1 := (HB.out.cell (World.block_lt_of_cell? w _ hx250_1)).trans hx250_1
        replace p250 := eq_true p250
        replace q250 := eq_true q250
        go_wp2
        repeat (go_quiet (fail); try go_wp2)
        go_ret
        exact ⟨by first | rfl | (simp [errW_none, errW_some] <;> rfl) | (simp [*, errW_none, errW_some] <;> rfl), by repeat (first | (with_reducible first | exact HB.out | apply below_alloc | apply pw_below_drewN | apply below_drew1 | refine below_set ?_ GE249.out) | exact HB.out)⟩
       rw [if_neg c14] at H
       have c14b0 : (x5_2 == (l1.length : Int)) = false := beq_eq_false_iff_ne.mpr c14
       have c14b1 : (x5_2 != (l1.length : Int)) = true := bne_iff_ne.mpr c14
       by_cases c15 : ((rd_T34 l1 x5_2).f0) = ((rd_T34 l0 x10_1).f0)
       case neg =>
        rw [if_neg c15] at H
        have c15b0 : (((rd_T34 l1 x5_2).f0) == ((rd_T34 l0 x10_1).f0)) = false := beq_eq_false_iff_ne.mpr c15
        have c15b1 : (((rd_T34 l1 x5_2).f0) != ((rd_T34 l0 x10_1).f0)) = true := bne_iff_ne.mpr c15
        obtain rfl := Option.some.inj H
        have p250 : 0 ≤ (x5_2 : Int) := of_decide_eq_true (by first | (with_reducible assumption) | assumption)
        have q250 : x5_2 < (l1.length : Int) := of_decide_eq_true (by first | (with_reducible assumption) | assumption)
        obtain ⟨ad250, e250, hx250_0, hx250_1⟩ := at_T34 HR1.out x5_2 p250 q250
        cases e250
        replace hx250_0 := (HB.out.cell (World.block_lt_of_cell? w _ hx250_0)).trans hx250_0
        replace hx250_1 := (HB.out.cell (World.block_lt_of_cell? w _ hx250_1)).trans hx250_1
        replace p250 := eq_true p250
        replace q250 := eq_true q250
        have p251 : 0 ≤ (x5_2 : Int) := of_decide_eq_true (by first | (with_reducible assumption) | assumption)
        have q251 : x5_2 < (l1.length : Int) := of_decide_eq_true (by first | (with_reducible assumption) | assumption)
        obtain ⟨ad251, e251, hx251_0, hx251_1⟩ := at_T34 HR1.out x5_2 p251 q251
        obtain rfl : ad250 = ad251 := (by injection e251)
        replace hx251_0 := (HB.out.cell (World.block_lt_of_cell? w _ hx251_0)).trans hx251_0
        replace hx251_1 := (HB.out.cell (World.block_lt_of_cell? w _ hx251_1)).trans hx251_1
        replace p251 := eq_true p251
        replace q251 := eq_true q251
        have hcz19_0 : wr.cell? ⟨gb249, 0, none⟩ = some (.int .i64 ((rd_T34 l0 x10_1).f0)) := (blk_cell BK249.out 0).trans rfl
        have hcz19_1 : wr.cell? ⟨gb249, 1, none⟩ = some (.string ((rd_T34 l0 x10_1).f1)) := (blk_cell BK249.out 1).trans rfl
        have hfz19_0 := blk_frozen BK249.out 0
        have hfz19_1 := blk_frozen BK249.out 1
        go_wp2
        repeat (go_quiet (fail); try go_wp2)
        go_ret
        exact ⟨by first | rfl | (simp [errW_none, errW_some] <;> rfl) | (simp [*, errW_none, errW_some] <;> rfl), by repeat (first | (with_reducible first | exact HB.out | apply below_alloc | apply pw_below_drewN | apply below_drew1 | refine below_set ?_ GE249.out) | exact HB.out)⟩
       rw [if_pos c15] at H
       have c15b0 : (((rd_T34 l1 x5_2).f0) == ((rd_T34 l0 x10_1).f0)) = true := beq_iff_eq.mpr c15
       have c15b1 : (((rd_T34 l1 x5_2).f0) != ((rd_T34 l0 x10_1).f0)) = false := bne_eq_false_iff_eq.mpr c15
       clear c15
       by_cases c16 : (((rd_T34 l1 x5_2).f1).size : Int) = (((rd_T34 l0 x10_1).f1).size : Int)
       case neg =>
        rw [if_neg c16] at H
        have c16b0 : ((((rd_T34 l1 x5_2).f1).size : Int) == (((rd_T34 l0 x10_1).f1).size : Int)) = false := beq_eq_false_iff_ne.mpr c16
        have c16b1 : ((((rd_T34 l1 x5_2).f1).size : Int) != (((rd_T34 l0 x10_1).f1).size : Int)) = true := bne_iff_ne.mpr c16
        have c16b2 : (((rd_T34 l1 x5_2).f1).size == ((rd_T34 l0 x10_1).f1).size) = false := by first | simpa using c16 | (simp at c16 ⊢; omega)
        obtain rfl := Option.some.inj H
        have p250 : 0 ≤ (x5_2 : Int) := of_decide_eq_true (by first | (with_reducible assumption) | assumption)
        have q250 : x5_2 < (l1.length : Int) := of_decide_eq_true (by first | (with_reducible assumption) | assumption)
        obtain ⟨ad250, e250, hx250_0, hx250_1⟩ := at_T34 HR1.out x5_2 p250 q250
        cases e250
        replace hx250_0 := (HB.out.cell (World.block_lt_of_cell? w _ hx250_0)).trans hx250_0
        replace hx250_1 := (HB.out.cell (World.block_lt_of_cell? w _ hx250_1)).trans hx250_1
        replace p250 := eq_true p250
        replace q250 := eq_true q250
        have p251 : 0 ≤ (x5_2 : Int) := of_decide_eq_true (by first | (with_reducible assumption) | assumption)
        have q251 : x5_2 < (l1.length : Int) := of_decide_eq_true (by first | (with_reducible assumption) | assumption)
        obtain ⟨ad251, e251, hx251_0, hx251_1⟩ := at_T34 HR1.out x5_2 p251 q251
        obtain rfl : ad250 = ad251 := (by injection e251)
        replace hx251_0 := (HB.out.cell (World.block_lt_of_cell? w _ hx251_0)).trans hx251_0
        replace hx251_1 := (HB.out.cell (World.block_lt_of_cell? w _ hx251_1)).trans hx251_1
        replace p251 := eq_true p251
        replace q251 := eq_true q251
        have hcz18_0 : wr.cell? ⟨gb249, 0, none⟩ = some (.int .i64 ((rd_T34 l0 x10_1).f0)) := (blk_cell BK249.out 0).trans rfl
        have hcz18_1 : wr.cell? ⟨gb249, 1, none⟩ = some (.string ((rd_T34 l0 x10_1).f1)) := (blk_cell BK249.out 1).trans rfl
        have hfz18_0 := blk_frozen BK249.out 0
        have hfz18_1 := blk_frozen BK249.out 1
        have p252 : 0 ≤ (x5_2 : Int) := of_decide_eq_true (by first | (with_reducible assumption) | assumption)
        have q252 : x5_2 < (l1.length : Int) := of_decide_eq_true (by first | (with_reducible assumption) | assumption)
        obtain ⟨ad252, e252, hx252_0, hx252_1⟩ := at_T34 HR1.out x5_2 p252 q252
        obtain rfl : ad250 = ad252 := (by injection e252)
        replace hx252_0 := (HB.out.cell (World.block_lt_of_cell? w _ hx252_0)).trans hx252_0
        replace hx252_1 := (HB.out.cell (World.block_lt_of_cell? w _ hx252_1)).trans hx252_1
        replace p252 := eq_true p252
        replace q252 := eq_true q252
        go_wp2
        repeat (go_quiet (fail); try go_wp2)
        go_ret
        exact ⟨by first | rfl | (simp [errW_none, errW_some] <;> rfl) | (simp [*, errW_none, errW_some] <;> rfl), by repeat (first | (with_reducible first | exact HB.out | apply below_alloc | apply pw_below_drewN | apply below_drew1 | refine below_set ?_ GE249.out) | exact HB.out)⟩
       rw [if_pos c16] at H
       have c16b0 : ((((rd_T34 l1 x5_2).f1).size : Int) == (((rd_T34 l0 x10_1).f1).size : Int)) = true := beq_iff_eq.mpr c16
       have c16b1 : ((((rd_T34 l1 x5_2).f1).size : Int) != (((rd_T34 l0 x10_1).f1).size : Int)) = false := bne_eq_false_iff_eq.mpr c16
       have c16b2 : (((rd_T34 l1 x5_2).f1).size == ((rd_T34 l0 x10_1).f1).size) = true := by first | simpa using c16 | (simp at c16 ⊢; omega)
       clear c16
       have H' := Aside0.mk H
       clear H
       have p250 : 0 ≤ (x5_2 : Int) := of_decide_eq_true (by first | (with_reducible assumption) | assumption)
       have q250 : x5_2 < (l1.length : Int) := of_decide_eq_true (by first | (with_reducible assumption) | assumption)
       obtain ⟨ad250, e250, hx250_0, hx250_1⟩ := at_T34 HR1.out x5_2 p250 q250
       cases e250
       replace hx250_0 := (HB.out.cell (World.block_lt_of_cell? w _ hx250_0)).trans hx250_0
       replace hx250_1 := (HB.out.cell (World.block_lt_of_cell? w _ hx250_1)).trans hx250_1
       replace p250 := eq_true p250
       replace q250 := eq_true q250
       have p251 : 0 ≤ (x5_2 : Int) := of_decide_eq_true (by first | (with_reducible assumption) | assumption)
       have q251 : x5_2 < (l1.length : Int) := of_decide_eq_true (by first | (with_reducible assumption) | assumption)
       obtain ⟨ad251, e251, hx251_0, hx251_1⟩ := at_T34 HR1.out x5_2 p251 q251
       obtain rfl : ad250 = ad251 := (by injection e251)
       replace hx251_0 := (HB.out.cell (World.block_lt_of_cell? w _ hx251_0)).trans hx251_0
       replace hx251_1 := (HB.out.cell (World.block_lt_of_cell? w _ hx251_1)).trans hx251_1
       replace p251 := eq_true p251
       replace q251 := eq_true q251
       have hcz17_0 : wr.cell? ⟨gb249, 0, none⟩ = some (.int .i64 ((rd_T34 l0 x10_1).f0)) := (blk_cell BK249.out 0).trans rfl
       have hcz17_1 : wr.cell? ⟨gb249, 1, none⟩ = some (.string ((rd_T34 l0 x10_1).f1)) := (blk_cell BK249.out 1).trans rfl
       have hfz17_0 := blk_frozen BK249.out 0
       have hfz17_1 := blk_frozen BK249.out 1
       have p252 : 0 ≤ (x5_2 : Int) := of_decide_eq_true (by first | (with_reducible assumption) | assumption)
       have q252 : x5_2 < (l1.length : Int) := of_decide_eq_true (by first | (with_reducible assumption) | assumption)
       obtain ⟨ad252, e252, hx252_0, hx252_1⟩ := at_T34 HR1.out x5_2 p252 q252
       obtain rfl : ad250 = ad252 := (by injection e252)
       replace hx252_0 := (HB.out.cell (World.block_lt_of_cell? w _ hx252_0)).trans hx252_0
       replace hx252_1 := (HB.out.cell (World.block_lt_of_cell? w _ hx252_1)).trans hx252_1
       replace p252 := eq_true p252
       replace q252 := eq_true q252
       go_wp2
       repeat (go_quiet (fail); try go_wp2)
       go_roundg k2
       case measure => have := HK1.out; have := HK2.out; omega
       case rel => exact ⟨(wrap64 (x5_2 + 1)), (wrap64 (x10_1 + 1)), (by first | rfl | (simp; done) | (simp [*]; done)), (by first | rfl | (simp; done) | (simp [*]; done)), H', ⟨by have := HK1.out; have := HK2.out; omega⟩, ⟨by repeat (first | (with_reducible first | exact HB.out | apply below_alloc | apply pw_below_drewN | apply below_drew1 | refine below_set ?_ GE249.out) | exact HB.out)⟩⟩
/-! ### laws_FnLosslessKeeps: function 4 -/
def laws_FnLosslessKeeps.f (k : Nat) (l0 : List (S26)) : Option (Bool) := (laws_zzFits3.f k l0).bind fun t254 => (if t254 = true then ((laws_cleanASCII.f k l0).bind fun t255 => (if t255 = true then ((laws_cleanOwn.f l0).bind fun t257 => ((impl_CleanLossless.f k t257).bind fun t260 => ((laws_cleanAwake.f k).bind fun t263 => (if t263 = true then ((laws_cleanOf.f k l0).bind fun t264 => ((laws_cleanOf.f k t260).bind fun t267 => ((spec_CleanKept.f k t264 t267).bind fun t270 => (if t270 = true then (if (t260.length : Int) ≤ (l0.length : Int) then ((laws_cleanOf.f k l0).bind fun t271 => ((laws_cleanOf.f k t260).bind fun t274 => ((spec_CleanShifted.f k t271 t274).bind fun t277 => (some t277)))) else (some false)) else (some false))))) else (some false))))) else ((laws_cleanAwake.f k).bind fun t256 => (some t256)))) else (some true))
theorem laws_FnLosslessKeeps.mono : ∀ a0 k, LeO (laws_FnLosslessKeeps.f k a0) (laws_FnLosslessKeeps.f (k + 1) a0) := by
 intro a0 k
 unfold laws_FnLosslessKeeps.f
 repeat' first
   | (with_reducible exact impl_CleanLossless.mono _ _)
   | (with_reducible exact laws_cleanASCII.mono _ _)
   | (with_reducible exact laws_cleanAwake.mono _)
   | (with_reducible exact laws_cleanOf.mono _ _)
   | (with_reducible exact laws_zzFits3.mono _ _)
   | (with_reducible exact spec_CleanKept.mono _ _ _)
   | (with_reducible exact spec_CleanShifted.mono _ _ _)
   | (with_reducible exact LeO.refl _)
   | (with_reducible exact LeO.none _)
   | (with_reducible refine LeO.ite ?_ ?_)
   | (with_reducible refine LeO.bind ?_ (fun _ => ?_))
   | exact impl_CleanLossless.mono _ _
   | exact laws_cleanASCII.mono _ _
   | exact laws_cleanAwake.mono _
   | exact laws_cleanOf.mono _ _
   | exact laws_zzFits3.mono _ _
   | exact spec_CleanKept.mono _ _ _
   | exact spec_CleanShifted.mono _ _ _
   | exact LeO.none _
   | refine LeO.ite ?_ ?_
   | refine LeO.bind ?_ (fun _ => ?_)
set_option maxHeartbeats 8000000 in
set_option maxRecDepth 100000 in
theorem laws_FnLosslessKeeps.calls (k : Nat) (A0 : Option Addr) (c0 : Nat) (l0 : List (S26)) (r : Bool) (w : World) (hG_ : Glob w) (hr0 : Kd.C k26 w A0 l0.length l0) (hc0 : l0.length ≤ c0) (h : laws_FnLosslessKeeps.f k l0 = some r) :
  Calls Tryd.prog 4 #[.slice A0 l0.length c0] w fun e w' => e = .returned (.bool r) ∧ Below w.heap.size w w' := by
 have HR0 := Aside0.mk hr0
 have HC0 := Aside0.mk hc0
 clear hr0 hc0
 have HB := Aside0.mk (Below.refl w.heap.size w)
 have H : ((laws_zzFits3.f k l0).bind fun t254 => (if t254 = true then ((laws_cleanASCII.f k l0).bind fun t255 => (if t255 = true then ((laws_cleanOwn.f l0).bind fun t257 => ((impl_CleanLossless.f k t257).bind fun t260 => ((laws_cleanAwake.f k).bind fun t263 => (if t263 = true then ((laws_cleanOf.f k l0).bind fun t264 => ((laws_cleanOf.f k t260).bind fun t267 => ((spec_CleanKept.f k t264 t267).bind fun t270 => (if t270 = true then (if (t260.length : Int) ≤ (l0.length : Int) then ((laws_cleanOf.f k l0).bind fun t271 => ((laws_cleanOf.f k t260).bind fun t274 => ((spec_CleanShifted.f k t271 t274).bind fun t277 => (some t277)))) else (some false)) else (some false))))) else (some false))))) else ((laws_cleanAwake.f k).bind fun t256 => (some t256)))) else (some true))) = some r := h
 clear h
 replace H := Option.bind_eq_some_iff.mp H
 obtain ⟨t254, A20, H⟩ := H
 replace H : (if t254 = true then ((laws_cleanASCII.f k l0).bind fun t255 => (if t255 = true then ((laws_cleanOwn.f l0).bind fun t257 => ((impl_CleanLossless.f k t257).bind fun t260 => ((laws_cleanAwake.f k).bind fun t263 => (if t263 = true then ((laws_cleanOf.f k l0).bind fun t264 => ((laws_cleanOf.f k t260).bind fun t267 => ((spec_CleanKept.f k t264 t267).bind fun t270 => (if t270 = true then (if (t260.length : Int) ≤ (l0.length : Int) then ((laws_cleanOf.f k l0).bind fun t271 => ((laws_cleanOf.f k t260).bind fun t274 => ((spec_CleanShifted.f k t271 t274).bind fun t277 => (some t277)))) else (some false)) else (some false))))) else (some false))))) else ((laws_cleanAwake.f k).bind fun t256 => (some t256)))) else (some true)) = some r := H
 have A2 := Aside0.mk A20
 clear A20
 by_cases c3 : t254 = true
 case neg =>
  replace c3 := Bool.eq_false_iff.mpr c3
  subst c3
  have H1 : (some true) = some r := by rw [if_neg (show ¬ (false = true) by decide)] at H; exact H
  clear H
  have H := H1
  clear H1
  obtain rfl := Option.some.inj H
  go_enter Tryd.func4, Tryd.ntmps4
  go_wp2_with (first | ((with_reducible refine gate_callee (f := 16) rfl ?_); refine goesL_ (some 5) rfl rfl Tryd.func16 (by kernel_rfl) rfl #[.slice A0 l0.length c0] rfl (by (try simp only [List.map_toArray, List.map_cons, List.map_nil]); first | done | rfl | (simp only [List.length_drop, List.length_take]; rfl)) ?_; (with_reducible refine (laws_zzFits3.calls k _ _ l0 false _ ?side1 ?side2 A2.out).mono ?_); (case side1 => repeat (first | exact HR0.out | (with_reducible refine Kd.C_alloc ?_ _) | (with_reducible refine Kd.C_drewN ?_ _) | (with_reducible refine Kd.C_drew ?_))); (case side2 => exact HC0.out); rintro e w69 ⟨rfl, hb⟩; refine ⟨_, rfl, ?_⟩; have n0_ := Aside0.mk (below_step (by repeat (first | (with_reducible first | exact HB.out | apply below_alloc | apply pw_below_drewN | apply below_drew1) | exact HB.out)) hb); clear HB; have HB := n0_; clear n0_; (try clear hb); (try clear hb2); (try clear hk); (try clear hi)))
  go_ret
  exact ⟨by first | rfl | (simp [errW_none, errW_some] <;> rfl) | (simp [*, errW_none, errW_some] <;> rfl), by repeat (first | (with_reducible first | exact HB.out | apply below_alloc | apply pw_below_drewN | apply below_drew1) | exact HB.out)⟩
 subst c3
 have H1 : ((laws_cleanASCII.f k l0).bind fun t255 => (if t255 = true then ((laws_cleanOwn.f l0).bind fun t257 => ((impl_CleanLossless.f k t257).bind fun t260 => ((laws_cleanAwake.f k).bind fun t263 => (if t263 = true then ((laws_cleanOf.f k l0).bind fun t264 => ((laws_cleanOf.f k t260).bind fun t267 => ((spec_CleanKept.f k t264 t267).bind fun t270 => (if t270 = true then (if (t260.length : Int) ≤ (l0.length : Int) then ((laws_cleanOf.f k l0).bind fun t271 => ((laws_cleanOf.f k t260).bind fun t274 => ((spec_CleanShifted.f k t271 t274).bind fun t277 => (some t277)))) else (some false)) else (some false))))) else (some false))))) else ((laws_cleanAwake.f k).bind fun t256 => (some t256)))) = some r := by rw [if_pos rfl] at H; exact H
 clear H
 have H := H1
 clear H1
 replace H := Option.bind_eq_some_iff.mp H
 obtain ⟨t255, A40, H⟩ := H
 replace H : (if t255 = true then ((laws_cleanOwn.f l0).bind fun t257 => ((impl_CleanLossless.f k t257).bind fun t260 => ((laws_cleanAwake.f k).bind fun t263 => (if t263 = true then ((laws_cleanOf.f k l0).bind fun t264 => ((laws_cleanOf.f k t260).bind fun t267 => ((spec_CleanKept.f k t264 t267).bind fun t270 => (if t270 = true then (if (t260.length : Int) ≤ (l0.length : Int) then ((laws_cleanOf.f k l0).bind fun t271 => ((laws_cleanOf.f k t260).bind fun t274 => ((spec_CleanShifted.f k t271 t274).bind fun t277 => (some t277)))) else (some false)) else (some false))))) else (some false))))) else ((laws_cleanAwake.f k).bind fun t256 => (some t256))) = some r := H
 have A4 := Aside0.mk A40
 clear A40
 by_cases c5 : t255 = true
 case neg =>
  replace c5 := Bool.eq_false_iff.mpr c5
  subst c5
  have H1 : ((laws_cleanAwake.f k).bind fun t256 => (some t256)) = some r := by rw [if_neg (show ¬ (false = true) by decide)] at H; exact H
  clear H
  have H := H1
  clear H1
  replace H := Option.bind_eq_some_iff.mp H
  obtain ⟨t256, A650, H⟩ := H
  replace H : (some t256) = some r := H
  have A65 := Aside0.mk A650
  clear A650
  obtain rfl := Option.some.inj H
  go_enter Tryd.func4, Tryd.ntmps4
  go_wp2_with (first | ((with_reducible refine gate_callee (f := 16) rfl ?_); refine goesL_ (some 5) rfl rfl Tryd.func16 (by kernel_rfl) rfl #[.slice A0 l0.length c0] rfl (by (try simp only [List.map_toArray, List.map_cons, List.map_nil]); first | done | rfl | (simp only [List.length_drop, List.length_take]; rfl)) ?_; (with_reducible refine (laws_zzFits3.calls k _ _ l0 true _ ?side1 ?side2 A2.out).mono ?_); (case side1 => repeat (first | exact HR0.out | (with_reducible refine Kd.C_alloc ?_ _) | (with_reducible refine Kd.C_drewN ?_ _) | (with_reducible refine Kd.C_drew ?_))); (case side2 => exact HC0.out); rintro e w66 ⟨rfl, hb⟩; refine ⟨_, rfl, ?_⟩; have n0_ := Aside0.mk (below_step (by repeat (first | (with_reducible first | exact HB.out | apply below_alloc | apply pw_below_drewN | apply below_drew1) | exact HB.out)) hb); clear HB; have HB := n0_; clear n0_; (try clear hb); (try clear hb2); (try clear hk); (try clear hi)) | ((with_reducible refine gate_callee (f := 17) rfl ?_); refine goesL_ (some 8) rfl rfl Tryd.func17 (by kernel_rfl) rfl #[.slice A0 l0.length c0] rfl (by (try simp only [List.map_toArray, List.map_cons, List.map_nil]); first | done | rfl | (simp only [List.length_drop, List.length_take]; rfl)) ?_; (with_reducible refine (laws_cleanASCII.calls k _ _ l0 false _ ?side1 ?side2 A4.out).mono ?_); (case side1 => repeat (first | exact (Kd.C_below HR0.out HB.out) | (with_reducible refine Kd.C_alloc ?_ _) | (with_reducible refine Kd.C_drewN ?_ _) | (with_reducible refine Kd.C_drew ?_))); (case side2 => exact HC0.out); rintro e w67 ⟨rfl, hb⟩; refine ⟨_, rfl, ?_⟩; have n0_ := Aside0.mk (below_step (by repeat (first | (with_reducible first | exact HB.out | apply below_alloc | apply pw_below_drewN | apply below_drew1) | exact HB.out)) hb); clear HB; have HB := n0_; clear n0_; (try clear hb); (try clear hb2); (try clear hk); (try clear hi)) | ((with_reducible refine gate_callee (f := 18) rfl ?_); refine goesL_ (some 10) rfl rfl Tryd.func18 (by kernel_rfl) rfl #[] rfl (by (try simp only [List.map_toArray, List.map_cons, List.map_nil]); first | done | rfl | (simp only [List.length_drop, List.length_take]; rfl)) ?_; (with_reducible refine (laws_cleanAwake.calls k  t256 _ ?side1 A65.out).mono ?_); (case side1 => exact Glob.below hG_ (by repeat (first | (with_reducible first | exact HB.out | apply below_alloc | apply pw_below_drewN | apply below_drew1) | exact HB.out))); rintro e w68 ⟨rfl, hb⟩; refine ⟨_, rfl, ?_⟩; have n0_ := Aside0.mk (below_step (by repeat (first | (with_reducible first | exact HB.out | apply below_alloc | apply pw_below_drewN | apply below_drew1) | exact HB.out)) hb); clear HB; have HB := n0_; clear n0_; (try clear hb); (try clear hb2); (try clear hk); (try clear hi)))
  go_ret
  exact ⟨by first | rfl | (simp [errW_none, errW_some] <;> rfl) | (simp [*, errW_none, errW_some] <;> rfl), by repeat (first | (with_reducible first | exact HB.out | apply below_alloc | apply pw_below_drewN | apply below_drew1) | exact HB.out)⟩
 subst c5
 have H1 : ((laws_cleanOwn.f l0).bind fun t257 => ((impl_CleanLossless.f k t257).bind fun t260 => ((laws_cleanAwake.f k).bind fun t263 => (if t263 = true then ((laws_cleanOf.f k l0).bind fun t264 => ((laws_cleanOf.f k t260).bind fun t267 => ((spec_CleanKept.f k t264 t267).bind fun t270 => (if t270 = true then (if (t260.length : Int) ≤ (l0.length : Int) then ((laws_cleanOf.f k l0).bind fun t271 => ((laws_cleanOf.f k t260).bind fun t274 => ((spec_CleanShifted.f k t271 t274).bind fun t277 => (some t277)))) else (some false)) else (some false))))) else (some false))))) = some r := by rw [if_pos rfl] at H; exact H
 clear H
 have H := H1
 clear H1
 replace H := Option.bind_eq_some_iff.mp H
 obtain ⟨t257, A60, H⟩ := H
 replace H : ((impl_CleanLossless.f k t257).bind fun t260 => ((laws_cleanAwake.f k).bind fun t263 => (if t263 = true then ((laws_cleanOf.f k l0).bind fun t264 => ((laws_cleanOf.f k t260).bind fun t267 => ((spec_CleanKept.f k t264 t267).bind fun t270 => (if t270 = true then (if (t260.length : Int) ≤ (l0.length : Int) then ((laws_cleanOf.f k l0).bind fun t271 => ((laws_cleanOf.f k t260).bind fun t274 => ((spec_CleanShifted.f k t271 t274).bind fun t277 => (some t277)))) else (some false)) else (some false))))) else (some false)))) = some r := H
 have A6 := Aside0.mk A60
 clear A60
 replace H := Option.bind_eq_some_iff.mp H
 obtain ⟨t260, A70, H⟩ := H
 replace H : ((laws_cleanAwake.f k).bind fun t263 => (if t263 = true then ((laws_cleanOf.f k l0).bind fun t264 => ((laws_cleanOf.f k t260).bind fun t267 => ((spec_CleanKept.f k t264 t267).bind fun t270 => (if t270 = true then (if (t260.length : Int) ≤ (l0.length : Int) then ((laws_cleanOf.f k l0).bind fun t271 => ((laws_cleanOf.f k t260).bind fun t274 => ((spec_CleanShifted.f k t271 t274).bind fun t277 => (some t277)))) else (some false)) else (some false))))) else (some false))) = some r := H
 have A7 := Aside0.mk A70
 clear A70
 replace H := Option.bind_eq_some_iff.mp H
 obtain ⟨t263, A80, H⟩ := H
 replace H : (if t263 = true then ((laws_cleanOf.f k l0).bind fun t264 => ((laws_cleanOf.f k t260).bind fun t267 => ((spec_CleanKept.f k t264 t267).bind fun t270 => (if t270 = true then (if (t260.length : Int) ≤ (l0.length : Int) then ((laws_cleanOf.f k l0).bind fun t271 => ((laws_cleanOf.f k t260).bind fun t274 => ((spec_CleanShifted.f k t271 t274).bind fun t277 => (some t277)))) else (some false)) else (some false))))) else (some false)) = some r := H
 have A8 := Aside0.mk A80
 clear A80
 by_cases c9 : t263 = true
 case neg =>
  replace c9 := Bool.eq_false_iff.mpr c9
  subst c9
  have H1 : (some false) = some r := by rw [if_neg (show ¬ (false = true) by decide)] at H; exact H
  clear H
  have H := H1
  clear H1
  obtain rfl := Option.some.inj H
  go_enter Tryd.func4, Tryd.ntmps4
  go_wp2_with (first | ((with_reducible refine gate_callee (f := 16) rfl ?_); refine goesL_ (some 5) rfl rfl Tryd.func16 (by kernel_rfl) rfl #[.slice A0 l0.length c0] rfl (by (try simp only [List.map_toArray, List.map_cons, List.map_nil]); first | done | rfl | (simp only [List.length_drop, List.length_take]; rfl)) ?_; (with_reducible refine (laws_zzFits3.calls k _ _ l0 true _ ?side1 ?side2 A2.out).mono ?_); (case side1 => repeat (first | exact HR0.out | (with_reducible refine Kd.C_alloc ?_ _) | (with_reducible refine Kd.C_drewN ?_ _) | (with_reducible refine Kd.C_drew ?_))); (case side2 => exact HC0.out); rintro e w59 ⟨rfl, hb⟩; refine ⟨_, rfl, ?_⟩; have n0_ := Aside0.mk (below_step (by repeat (first | (with_reducible first | exact HB.out | apply below_alloc | apply pw_below_drewN | apply below_drew1) | exact HB.out)) hb); clear HB; have HB := n0_; clear n0_; (try clear hb); (try clear hb2); (try clear hk); (try clear hi)) | ((with_reducible refine gate_callee (f := 17) rfl ?_); refine goesL_ (some 8) rfl rfl Tryd.func17 (by kernel_rfl) rfl #[.slice A0 l0.length c0] rfl (by (try simp only [List.map_toArray, List.map_cons, List.map_nil]); first | done | rfl | (simp only [List.length_drop, List.length_take]; rfl)) ?_; (with_reducible refine (laws_cleanASCII.calls k _ _ l0 true _ ?side1 ?side2 A4.out).mono ?_); (case side1 => repeat (first | exact (Kd.C_below HR0.out HB.out) | (with_reducible refine Kd.C_alloc ?_ _) | (with_reducible refine Kd.C_drewN ?_ _) | (with_reducible refine Kd.C_drew ?_))); (case side2 => exact HC0.out); rintro e w60 ⟨rfl, hb⟩; refine ⟨_, rfl, ?_⟩; have n0_ := Aside0.mk (below_step (by repeat (first | (with_reducible first | exact HB.out | apply below_alloc | apply pw_below_drewN | apply below_drew1) | exact HB.out)) hb); clear HB; have HB := n0_; clear n0_; (try clear hb); (try clear hb2); (try clear hk); (try clear hi)) | ((with_reducible refine gate_callee (f := 22) rfl ?_); refine goesL_ (some 12) rfl rfl Tryd.func22 (by kernel_rfl) rfl #[.slice A0 l0.length c0] rfl (by (try simp only [List.map_toArray, List.map_cons, List.map_nil]); first | done | rfl | (simp only [List.length_drop, List.length_take]; rfl)) ?_; (with_reducible refine (laws_cleanOwn.calls _ _ l0 t257 _ ?side1 ?side2 A6.out).mono ?_); (case side1 => repeat (first | exact (Kd.C_below HR0.out HB.out) | (with_reducible refine Kd.C_alloc ?_ _) | (with_reducible refine Kd.C_drewN ?_ _) | (with_reducible refine Kd.C_drew ?_))); (case side2 => exact HC0.out); rintro e w61 ⟨v258, rfl, ho0, hb⟩; refine ⟨_, rfl, ?_⟩; have n0_ := Aside0.mk (Kd.R_lower ho0 (below_size (by repeat (first | (with_reducible first | exact HB.out | apply below_alloc | apply pw_below_drewN | apply below_drew1) | exact HB.out)))); have n1_ := Aside0.mk (below_step (by repeat (first | (with_reducible first | exact HB.out | apply below_alloc | apply pw_below_drewN | apply below_drew1) | exact HB.out)) hb); clear HB; have HO259 := n0_; have HB := n1_; clear n0_ n1_; (try clear hb); (try clear hb2); (try clear hk); (try clear hi); (try clear ho0); obtain ⟨Ao62, co62, eo62⟩ := Kd.R_slice HO259.out; subst eo62) | ((with_reducible refine gate_callee (f := 21) rfl ?_); refine goesL_ (some 13) rfl rfl Tryd.func21 (by kernel_rfl) rfl #[.slice Ao62 t257.length co62] rfl (by (try simp only [List.map_toArray, List.map_cons, List.map_nil]); first | done | rfl | (simp only [List.length_drop, List.length_take]; rfl)) ?_; (with_reducible refine (impl_CleanLossless.calls k _ _ t257 t260 _ ?side1 ?side2 ?side3 A7.out).mono ?_); (case side1 => exact Glob.below hG_ (by repeat (first | (with_reducible first | exact HB.out | apply below_alloc | apply pw_below_drewN | apply below_drew1) | exact HB.out))); (case side2 => repeat (first | exact (Kd.R_reads' HO259.out).2.2 | (with_reducible refine Kd.C_alloc ?_ _) | (with_reducible refine Kd.C_drewN ?_ _) | (with_reducible refine Kd.C_drew ?_))); (case side3 => exact (Kd.R_reads' HO259.out).2.1); rintro e w63 ⟨v261, rfl, ho0, hb⟩; refine ⟨_, rfl, ?_⟩; have n0_ := Aside0.mk (Kd.R_elder' (by (with_reducible repeat (first | apply Kd.R_alloc | apply Kd.R_drewN | apply Kd.R_drew)); exact HO259.out) (Kd.R_base ho0) hb); have n1_ := Aside0.mk (Kd.R_lower (Kd.R_new' ho0 (Kd.R_lt (by (with_reducible repeat (first | apply Kd.R_alloc | apply Kd.R_drewN | apply Kd.R_drew)); exact HO259.out))) (below_size (by repeat (first | (with_reducible first | exact HB.out | apply below_alloc | apply pw_below_drewN | apply below_drew1) | exact HB.out)))); have n2_ := Aside0.mk (below_step (by repeat (first | (with_reducible first | exact HB.out | apply below_alloc | apply pw_below_drewN | apply below_drew1) | exact HB.out)) hb); clear HO259; clear HB; have HO259 := n0_; have HO262 := n1_; have HB := n2_; clear n0_ n1_ n2_; (try clear hb); (try clear hb2); (try clear hk); (try clear hi); (try clear ho0)) | ((with_reducible refine gate_callee (f := 18) rfl ?_); refine goesL_ (some 14) rfl rfl Tryd.func18 (by kernel_rfl) rfl #[] rfl (by (try simp only [List.map_toArray, List.map_cons, List.map_nil]); first | done | rfl | (simp only [List.length_drop, List.length_take]; rfl)) ?_; (with_reducible refine (laws_cleanAwake.calls k  false _ ?side1 A8.out).mono ?_); (case side1 => exact Glob.below hG_ (by repeat (first | (with_reducible first | exact HB.out | apply below_alloc | apply pw_below_drewN | apply below_drew1) | exact HB.out))); rintro e w64 ⟨rfl, hb⟩; refine ⟨_, rfl, ?_⟩; have n0_ := Aside0.mk (Kd.R_below (by (with_reducible repeat (first | apply Kd.R_alloc | apply Kd.R_drewN | apply Kd.R_drew)); exact HO259.out) hb); have n1_ := Aside0.mk (Kd.R_below (by (with_reducible repeat (first | apply Kd.R_alloc | apply Kd.R_drewN | apply Kd.R_drew)); exact HO262.out) hb); have n2_ := Aside0.mk (below_step (by repeat (first | (with_reducible first | exact HB.out | apply below_alloc | apply pw_below_drewN | apply below_drew1) | exact HB.out)) hb); clear HO259; clear HO262; clear HB; have HO259 := n0_; have HO262 := n1_; have HB := n2_; clear n0_ n1_ n2_; (try clear hb); (try clear hb2); (try clear hk); (try clear hi)))
  go_ret
  exact ⟨by first | rfl | (simp [errW_none, errW_some] <;> rfl) | (simp [*, errW_none, errW_some] <;> rfl), by repeat (first | (with_reducible first | exact HB.out | apply below_alloc | apply pw_below_drewN | apply below_drew1) | exact HB.out)⟩
 subst c9
 have H1 : ((laws_cleanOf.f k l0).bind fun t264 => ((laws_cleanOf.f k t260).bind fun t267 => ((spec_CleanKept.f k t264 t267).bind fun t270 => (if t270 = true then (if (t260.length : Int) ≤ (l0.length : Int) then ((laws_cleanOf.f k l0).bind fun t271 => ((laws_cleanOf.f k t260).bind fun t274 => ((spec_CleanShifted.f k t271 t274).bind fun t277 => (some t277)))) else (some false)) else (some false))))) = some r := by rw [if_pos rfl] at H; exact H
 clear H
 have H := H1
 clear H1
 replace H := Option.bind_eq_some_iff.mp H
 obtain ⟨t264, A100, H⟩ := H
 replace H : ((laws_cleanOf.f k t260).bind fun t267 => ((spec_CleanKept.f k t264 t267).bind fun t270 => (if t270 = true then (if (t260.length : Int) ≤ (l0.length : Int) then ((laws_cleanOf.f k l0).bind fun t271 => ((laws_cleanOf.f k t260).bind fun t274 => ((spec_CleanShifted.f k t271 t274).bind fun t277 => (some t277)))) else (some false)) else (some false)))) = some r := H
 have A10 := Aside0.mk A100
 clear A100
 replace H := Option.bind_eq_some_iff.mp H
 obtain ⟨t267, A110, H⟩ := H
 replace H : ((spec_CleanKept.f k t264 t267).bind fun t270 => (if t270 = true then (if (t260.length : Int) ≤ (l0.length : Int) then ((laws_cleanOf.f k l0).bind fun t271 => ((laws_cleanOf.f k t260).bind fun t274 => ((spec_CleanShifted.f k t271 t274).bind fun t277 => (some t277)))) else (some false)) else (some false))) = some r := H
 have A11 := Aside0.mk A110
 clear A110
 replace H := Option.bind_eq_some_iff.mp H
 obtain ⟨t270, A120, H⟩ := H
 replace H : (if t270 = true then (if (t260.length : Int) ≤ (l0.length : Int) then ((laws_cleanOf.f k l0).bind fun t271 => ((laws_cleanOf.f k t260).bind fun t274 => ((spec_CleanShifted.f k t271 t274).bind fun t277 => (some t277)))) else (some false)) else (some false)) = some r := H
 have A12 := Aside0.mk A120
 clear A120
 by_cases c13 : t270 = true
 case neg =>
  replace c13 := Bool.eq_false_iff.mpr c13
  subst c13
  have H1 : (some false) = some r := by rw [if_neg (show ¬ (false = true) by decide)] at H; exact H
  clear H
  have H := H1
  clear H1
  obtain rfl := Option.some.inj H
  go_enter Tryd.func4, Tryd.ntmps4
  go_wp2_with (first | ((with_reducible refine gate_callee (f := 16) rfl ?_); refine goesL_ (some 5) rfl rfl Tryd.func16 (by kernel_rfl) rfl #[.slice A0 l0.length c0] rfl (by (try simp only [List.map_toArray, List.map_cons, List.map_nil]); first | done | rfl | (simp only [List.length_drop, List.length_take]; rfl)) ?_; (with_reducible refine (laws_zzFits3.calls k _ _ l0 true _ ?side1 ?side2 A2.out).mono ?_); (case side1 => repeat (first | exact HR0.out | (with_reducible refine Kd.C_alloc ?_ _) | (with_reducible refine Kd.C_drewN ?_ _) | (with_reducible refine Kd.C_drew ?_))); (case side2 => exact HC0.out); rintro e w47 ⟨rfl, hb⟩; refine ⟨_, rfl, ?_⟩; have n0_ := Aside0.mk (below_step (by repeat (first | (with_reducible first | exact HB.out | apply below_alloc | apply pw_below_drewN | apply below_drew1) | exact HB.out)) hb); clear HB; have HB := n0_; clear n0_; (try clear hb); (try clear hb2); (try clear hk); (try clear hi)) | ((with_reducible refine gate_callee (f := 17) rfl ?_); refine goesL_ (some 8) rfl rfl Tryd.func17 (by kernel_rfl) rfl #[.slice A0 l0.length c0] rfl (by (try simp only [List.map_toArray, List.map_cons, List.map_nil]); first | done | rfl | (simp only [List.length_drop, List.length_take]; rfl)) ?_; (with_reducible refine (laws_cleanASCII.calls k _ _ l0 true _ ?side1 ?side2 A4.out).mono ?_); (case side1 => repeat (first | exact (Kd.C_below HR0.out HB.out) | (with_reducible refine Kd.C_alloc ?_ _) | (with_reducible refine Kd.C_drewN ?_ _) | (with_reducible refine Kd.C_drew ?_))); (case side2 => exact HC0.out); rintro e w48 ⟨rfl, hb⟩; refine ⟨_, rfl, ?_⟩; have n0_ := Aside0.mk (below_step (by repeat (first | (with_reducible first | exact HB.out | apply below_alloc | apply pw_below_drewN | apply below_drew1) | exact HB.out)) hb); clear HB; have HB := n0_; clear n0_; (try clear hb); (try clear hb2); (try clear hk); (try clear hi)) | ((with_reducible refine gate_callee (f := 22) rfl ?_); refine goesL_ (some 12) rfl rfl Tryd.func22 (by kernel_rfl) rfl #[.slice A0 l0.length c0] rfl (by (try simp only [List.map_toArray, List.map_cons, List.map_nil]); first | done | rfl | (simp only [List.length_drop, List.length_take]; rfl)) ?_; (with_reducible refine (laws_cleanOwn.calls _ _ l0 t257 _ ?side1 ?side2 A6.out).mono ?_); (case side1 => repeat (first | exact (Kd.C_below HR0.out HB.out) | (with_reducible refine Kd.C_alloc ?_ _) | (with_reducible refine Kd.C_drewN ?_ _) | (with_reducible refine Kd.C_drew ?_))); (case side2 => exact HC0.out); rintro e w49 ⟨v258, rfl, ho0, hb⟩; refine ⟨_, rfl, ?_⟩; have n0_ := Aside0.mk (Kd.R_lower ho0 (below_size (by repeat (first | (with_reducible first | exact HB.out | apply below_alloc | apply pw_below_drewN | apply below_drew1) | exact HB.out)))); have n1_ := Aside0.mk (below_step (by repeat (first | (with_reducible first | exact HB.out | apply below_alloc | apply pw_below_drewN | apply below_drew1) | exact HB.out)) hb); clear HB; have HO259 := n0_; have HB := n1_; clear n0_ n1_; (try clear hb); (try clear hb2); (try clear hk); (try clear hi); (try clear ho0); obtain ⟨Ao50, co50, eo50⟩ := Kd.R_slice HO259.out; subst eo50) | ((with_reducible refine gate_callee (f := 21) rfl ?_); refine goesL_ (some 13) rfl rfl Tryd.func21 (by kernel_rfl) rfl #[.slice Ao50 t257.length co50] rfl (by (try simp only [List.map_toArray, List.map_cons, List.map_nil]); first | done | rfl | (simp only [List.length_drop, List.length_take]; rfl)) ?_; (with_reducible refine (impl_CleanLossless.calls k _ _ t257 t260 _ ?side1 ?side2 ?side3 A7.out).mono ?_); (case side1 => exact Glob.below hG_ (by repeat (first | (with_reducible first | exact HB.out | apply below_alloc | apply pw_below_drewN | apply below_drew1) | exact HB.out))); (case side2 => repeat (first | exact (Kd.R_reads' HO259.out).2.2 | (with_reducible refine Kd.C_alloc ?_ _) | (with_reducible refine Kd.C_drewN ?_ _) | (with_reducible refine Kd.C_drew ?_))); (case side3 => exact (Kd.R_reads' HO259.out).2.1); rintro e w51 ⟨v261, rfl, ho0, hb⟩; refine ⟨_, rfl, ?_⟩; have n0_ := Aside0.mk (Kd.R_elder' (by (with_reducible repeat (first | apply Kd.R_alloc | apply Kd.R_drewN | apply Kd.R_drew)); exact HO259.out) (Kd.R_base ho0) hb); have n1_ := Aside0.mk (Kd.R_lower (Kd.R_new' ho0 (Kd.R_lt (by (with_reducible repeat (first | apply Kd.R_alloc | apply Kd.R_drewN | apply Kd.R_drew)); exact HO259.out))) (below_size (by repeat (first | (with_reducible first | exact HB.out | apply below_alloc | apply pw_below_drewN | apply below_drew1) | exact HB.out)))); have n2_ := Aside0.mk (below_step (by repeat (first | (with_reducible first | exact HB.out | apply below_alloc | apply pw_below_drewN | apply below_drew1) | exact HB.out)) hb); clear HO259; clear HB; have HO259 := n0_; have HO262 := n1_; have HB := n2_; clear n0_ n1_ n2_; (try clear hb); (try clear hb2); (try clear hk); (try clear hi); (try clear ho0)) | ((with_reducible refine gate_callee (f := 18) rfl ?_); refine goesL_ (some 14) rfl rfl Tryd.func18 (by kernel_rfl) rfl #[] rfl (by (try simp only [List.map_toArray, List.map_cons, List.map_nil]); first | done | rfl | (simp only [List.length_drop, List.length_take]; rfl)) ?_; (with_reducible refine (laws_cleanAwake.calls k  true _ ?side1 A8.out).mono ?_); (case side1 => exact Glob.below hG_ (by repeat (first | (with_reducible first | exact HB.out | apply below_alloc | apply pw_below_drewN | apply below_drew1) | exact HB.out))); rintro e w52 ⟨rfl, hb⟩; refine ⟨_, rfl, ?_⟩; have n0_ := Aside0.mk (Kd.R_below (by (with_reducible repeat (first | apply Kd.R_alloc | apply Kd.R_drewN | apply Kd.R_drew)); exact HO259.out) hb); have n1_ := Aside0.mk (Kd.R_below (by (with_reducible repeat (first | apply Kd.R_alloc | apply Kd.R_drewN | apply Kd.R_drew)); exact HO262.out) hb); have n2_ := Aside0.mk (below_step (by repeat (first | (with_reducible first | exact HB.out | apply below_alloc | apply pw_below_drewN | apply below_drew1) | exact HB.out)) hb); clear HO259; clear HO262; clear HB; have HO259 := n0_; have HO262 := n1_; have HB := n2_; clear n0_ n1_ n2_; (try clear hb); (try clear hb2); (try clear hk); (try clear hi)) | (go_at_call 20; (with_reducible refine (laws_cleanOf.calls k _ _ l0 t264 _ ?side1 ?side2 A10.out).mono ?_); (case side1 => repeat (first | exact (Kd.C_below HR0.out HB.out) | (with_reducible refine Kd.C_alloc ?_ _) | (with_reducible refine Kd.C_drewN ?_ _) | (with_reducible refine Kd.C_drew ?_))); (case side2 => exact HC0.out); rintro e w53 ⟨v265, rfl, ho0, hb⟩; have n0_ := Aside0.mk (Kd.R_below (by (with_reducible repeat (first | apply Kd.R_alloc | apply Kd.R_drewN | apply Kd.R_drew)); exact HO259.out) hb); have n1_ := Aside0.mk (Kd.R_below (by (with_reducible repeat (first | apply Kd.R_alloc | apply Kd.R_drewN | apply Kd.R_drew)); exact HO262.out) hb); have n2_ := Aside0.mk (Kd.R_lower ho0 (below_size (by repeat (first | (with_reducible first | exact HB.out | apply below_alloc | apply pw_below_drewN | apply below_drew1) | exact HB.out)))); have n3_ := Aside0.mk (below_step (by repeat (first | (with_reducible first | exact HB.out | apply below_alloc | apply pw_below_drewN | apply below_drew1) | exact HB.out)) hb); clear HO259; clear HO262; clear HB; have HO259 := n0_; have HO262 := n1_; have HO266 := n2_; have HB := n3_; clear n0_ n1_ n2_ n3_; (try clear hb); (try clear hb2); (try clear hk); (try clear hi); (try clear ho0); obtain ⟨Ao54, co54, eo54⟩ := Kd.R_slice HO262.out; subst eo54) | (go_at_call 20; (with_reducible refine (laws_cleanOf.calls k _ _ t260 t267 _ ?side1 ?side2 A11.out).mono ?_); (case side1 => repeat (first | exact (Kd.R_reads' HO262.out).2.2 | (with_reducible refine Kd.C_alloc ?_ _) | (with_reducible refine Kd.C_drewN ?_ _) | (with_reducible refine Kd.C_drew ?_))); (case side2 => exact (Kd.R_reads' HO262.out).2.1); rintro e w55 ⟨v268, rfl, ho0, hb⟩; have n0_ := Aside0.mk (Kd.R_below (by (with_reducible repeat (first | apply Kd.R_alloc | apply Kd.R_drewN | apply Kd.R_drew)); exact HO259.out) hb); have n1_ := Aside0.mk (Kd.R_below (by (with_reducible repeat (first | apply Kd.R_alloc | apply Kd.R_drewN | apply Kd.R_drew)); exact HO262.out) hb); have n2_ := Aside0.mk (Kd.R_elder' (by (with_reducible repeat (first | apply Kd.R_alloc | apply Kd.R_drewN | apply Kd.R_drew)); exact HO266.out) (Kd.R_base ho0) hb); have n3_ := Aside0.mk (Kd.R_lower (Kd.R_new' ho0 (Kd.R_lt (by (with_reducible repeat (first | apply Kd.R_alloc | apply Kd.R_drewN | apply Kd.R_drew)); exact HO266.out))) (below_size (by repeat (first | (with_reducible first | exact HB.out | apply below_alloc | apply pw_below_drewN | apply below_drew1) | exact HB.out)))); have n4_ := Aside0.mk (below_step (by repeat (first | (with_reducible first | exact HB.out | apply below_alloc | apply pw_below_drewN | apply below_drew1) | exact HB.out)) hb); clear HO259; clear HO262; clear HO266; clear HB; have HO259 := n0_; have HO262 := n1_; have HO266 := n2_; have HO269 := n3_; have HB := n4_; clear n0_ n1_ n2_ n3_ n4_; (try clear hb); (try clear hb2); (try clear hk); (try clear hi); (try clear ho0); obtain ⟨Ao56, co56, eo56⟩ := Kd.R_slice HO266.out; subst eo56; obtain ⟨Ao57, co57, eo57⟩ := Kd.R_slice HO269.out; subst eo57) | (go_at_call 23; (with_reducible refine (spec_CleanKept.calls k _ _ t264 _ _ t267 false _ ?side1 ?side2 ?side3 ?side4 A12.out).mono ?_); (case side1 => repeat (first | exact (Kd.R_reads' HO266.out).2.2 | (with_reducible refine Kd.C_alloc ?_ _) | (with_reducible refine Kd.C_drewN ?_ _) | (with_reducible refine Kd.C_drew ?_))); (case side2 => exact (Kd.R_reads' HO266.out).2.1); (case side3 => repeat (first | exact (Kd.R_reads' HO269.out).2.2 | (with_reducible refine Kd.C_alloc ?_ _) | (with_reducible refine Kd.C_drewN ?_ _) | (with_reducible refine Kd.C_drew ?_))); (case side4 => exact (Kd.R_reads' HO269.out).2.1); rintro e w58 ⟨rfl, hb⟩; have n0_ := Aside0.mk (Kd.R_below (by (with_reducible repeat (first | apply Kd.R_alloc | apply Kd.R_drewN | apply Kd.R_drew)); exact HO259.out) hb); have n1_ := Aside0.mk (Kd.R_below (by (with_reducible repeat (first | apply Kd.R_alloc | apply Kd.R_drewN | apply Kd.R_drew)); exact HO262.out) hb); have n2_ := Aside0.mk (Kd.R_below (by (with_reducible repeat (first | apply Kd.R_alloc | apply Kd.R_drewN | apply Kd.R_drew)); exact HO266.out) hb); have n3_ := Aside0.mk (Kd.R_below (by (with_reducible repeat (first | apply Kd.R_alloc | apply Kd.R_drewN | apply Kd.R_drew)); exact HO269.out) hb); have n4_ := Aside0.mk (below_step (by repeat (first | (with_reducible first | exact HB.out | apply below_alloc | apply pw_below_drewN | apply below_drew1) | exact HB.out)) hb); clear HO259; clear HO262; clear HO266; clear HO269; clear HB; have HO259 := n0_; have HO262 := n1_; have HO266 := n2_; have HO269 := n3_; have HB := n4_; clear n0_ n1_ n2_ n3_ n4_; (try clear hb); (try clear hb2); (try clear hk); (try clear hi)))
  go_ret
  exact ⟨by first | rfl | (simp [errW_none, errW_some] <;> rfl) | (simp [*, errW_none, errW_some] <;> rfl), by repeat (first | (with_reducible first | exact HB.out | apply below_alloc | apply pw_below_drewN | apply below_drew1) | exact HB.out)⟩
 subst c13
 have H1 : (if (t260.length : Int) ≤ (l0.length : Int) then ((laws_cleanOf.f k l0).bind fun t271 => ((laws_cleanOf.f k t260).bind fun t274 => ((spec_CleanShifted.f k t271 t274).bind fun t277 => (some t277)))) else (some false)) = some r := by rw [if_pos rfl] at H; exact H
 clear H
 have H := H1
 clear H1
 by_cases c14 : (t260.length : Int) ≤ (l0.length : Int)
 case neg =>
  rw [if_neg c14] at H
  have c14b0 : decide ((t260.length : Int) ≤ (l0.length : Int)) = false := decide_eq_false c14
  have c14b1 : decide (t260.length ≤ l0.length) = false := decide_eq_false (fun h => c14 (Int.ofNat_le.mpr h))
  clear c14
  obtain rfl := Option.some.inj H
  go_enter Tryd.func4, Tryd.ntmps4
  go_wp2_with (first | ((with_reducible refine gate_callee (f := 16) rfl ?_); refine goesL_ (some 5) rfl rfl Tryd.func16 (by kernel_rfl) rfl #[.slice A0 l0.length c0] rfl (by (try simp only [List.map_toArray, List.map_cons, List.map_nil]); first | done | rfl | (simp only [List.length_drop, List.length_take]; rfl)) ?_; (with_reducible refine (laws_zzFits3.calls k _ _ l0 true _ ?side1 ?side2 A2.out).mono ?_); (case side1 => repeat (first | exact HR0.out | (with_reducible refine Kd.C_alloc ?_ _) | (with_reducible refine Kd.C_drewN ?_ _) | (with_reducible refine Kd.C_drew ?_))); (case side2 => exact HC0.out); rintro e w35 ⟨rfl, hb⟩; refine ⟨_, rfl, ?_⟩; have n0_ := Aside0.mk (below_step (by repeat (first | (with_reducible first | exact HB.out | apply below_alloc | apply pw_below_drewN | apply below_drew1) | exact HB.out)) hb); clear HB; have HB := n0_; clear n0_; (try clear hb); (try clear hb2); (try clear hk); (try clear hi)) | ((with_reducible refine gate_callee (f := 17) rfl ?_); refine goesL_ (some 8) rfl rfl Tryd.func17 (by kernel_rfl) rfl #[.slice A0 l0.length c0] rfl (by (try simp only [List.map_toArray, List.map_cons, List.map_nil]); first | done | rfl | (simp only [List.length_drop, List.length_take]; rfl)) ?_; (with_reducible refine (laws_cleanASCII.calls k _ _ l0 true _ ?side1 ?side2 A4.out).mono ?_); (case side1 => repeat (first | exact (Kd.C_below HR0.out HB.out) | (with_reducible refine Kd.C_alloc ?_ _) | (with_reducible refine Kd.C_drewN ?_ _) | (with_reducible refine Kd.C_drew ?_))); (case side2 => exact HC0.out); rintro e w36 ⟨rfl, hb⟩; refine ⟨_, rfl, ?_⟩; have n0_ := Aside0.mk (below_step (by repeat (first | (with_reducible first | exact HB.out | apply below_alloc | apply pw_below_drewN | apply below_drew1) | exact HB.out)) hb); clear HB; have HB := n0_; clear n0_; (try clear hb); (try clear hb2); (try clear hk); (try clear hi)) | ((with_reducible refine gate_callee (f := 22) rfl ?_); refine goesL_ (some 12) rfl rfl Tryd.func22 (by kernel_rfl) rfl #[.slice A0 l0.length c0] rfl (by (try simp only [List.map_toArray, List.map_cons, List.map_nil]); first | done | rfl | (simp only [List.length_drop, List.length_take]; rfl)) ?_; (with_reducible refine (laws_cleanOwn.calls _ _ l0 t257 _ ?side1 ?side2 A6.out).mono ?_); (case side1 => repeat (first | exact (Kd.C_below HR0.out HB.out) | (with_reducible refine Kd.C_alloc ?_ _) | (with_reducible refine Kd.C_drewN ?_ _) | (with_reducible refine Kd.C_drew ?_))); (case side2 => exact HC0.out); rintro e w37 ⟨v258, rfl, ho0, hb⟩; refine ⟨_, rfl, ?_⟩; have n0_ := Aside0.mk (Kd.R_lower ho0 (below_size (by repeat (first | (with_reducible first | exact HB.out | apply below_alloc | apply pw_below_drewN | apply below_drew1) | exact HB.out)))); have n1_ := Aside0.mk (below_step (by repeat (first | (with_reducible first | exact HB.out | apply below_alloc | apply pw_below_drewN | apply below_drew1) | exact HB.out)) hb); clear HB; have HO259 := n0_; have HB := n1_; clear n0_ n1_; (try clear hb); (try clear hb2); (try clear hk); (try clear hi); (try clear ho0); obtain ⟨Ao38, co38, eo38⟩ := Kd.R_slice HO259.out; subst eo38) | ((with_reducible refine gate_callee (f := 21) rfl ?_); refine goesL_ (some 13) rfl rfl Tryd.func21 (by kernel_rfl) rfl #[.slice Ao38 t257.length co38] rfl (by (try simp only [List.map_toArray, List.map_cons, List.map_nil]); first | done | rfl | (simp only [List.length_drop, List.length_take]; rfl)) ?_; (with_reducible refine (impl_CleanLossless.calls k _ _ t257 t260 _ ?side1 ?side2 ?side3 A7.out).mono ?_); (case side1 => exact Glob.below hG_ (by repeat (first | (with_reducible first | exact HB.out | apply below_alloc | apply pw_below_drewN | apply below_drew1) | exact HB.out))); (case side2 => repeat (first | exact (Kd.R_reads' HO259.out).2.2 | (with_reducible refine Kd.C_alloc ?_ _) | (with_reducible refine Kd.C_drewN ?_ _) | (with_reducible refine Kd.C_drew ?_))); (case side3 => exact (Kd.R_reads' HO259.out).2.1); rintro e w39 ⟨v261, rfl, ho0, hb⟩; refine ⟨_, rfl, ?_⟩; have n0_ := Aside0.mk (Kd.R_elder' (by (with_reducible repeat (first | apply Kd.R_alloc | apply Kd.R_drewN | apply Kd.R_drew)); exact HO259.out) (Kd.R_base ho0) hb); have n1_ := Aside0.mk (Kd.R_lower (Kd.R_new' ho0 (Kd.R_lt (by (with_reducible repeat (first | apply Kd.R_alloc | apply Kd.R_drewN | apply Kd.R_drew)); exact HO259.out))) (below_size (by repeat (first | (with_reducible first | exact HB.out | apply below_alloc | apply pw_below_drewN | apply below_drew1) | exact HB.out)))); have n2_ := Aside0.mk (below_step (by repeat (first | (with_reducible first | exact HB.out | apply below_alloc | apply pw_below_drewN | apply below_drew1) | exact HB.out)) hb); clear HO259; clear HB; have HO259 := n0_; have HO262 := n1_; have HB := n2_; clear n0_ n1_ n2_; (try clear hb); (try clear hb2); (try clear hk); (try clear hi); (try clear ho0)) | ((with_reducible refine gate_callee (f := 18) rfl ?_); refine goesL_ (some 14) rfl rfl Tryd.func18 (by kernel_rfl) rfl #[] rfl (by (try simp only [List.map_toArray, List.map_cons, List.map_nil]); first | done | rfl | (simp only [List.length_drop, List.length_take]; rfl)) ?_; (with_reducible refine (laws_cleanAwake.calls k  true _ ?side1 A8.out).mono ?_); (case side1 => exact Glob.below hG_ (by repeat (first | (with_reducible first | exact HB.out | apply below_alloc | apply pw_below_drewN | apply below_drew1) | exact HB.out))); rintro e w40 ⟨rfl, hb⟩; refine ⟨_, rfl, ?_⟩; have n0_ := Aside0.mk (Kd.R_below (by (with_reducible repeat (first | apply Kd.R_alloc | apply Kd.R_drewN | apply Kd.R_drew)); exact HO259.out) hb); have n1_ := Aside0.mk (Kd.R_below (by (with_reducible repeat (first | apply Kd.R_alloc | apply Kd.R_drewN | apply Kd.R_drew)); exact HO262.out) hb); have n2_ := Aside0.mk (below_step (by repeat (first | (with_reducible first | exact HB.out | apply below_alloc | apply pw_below_drewN | apply below_drew1) | exact HB.out)) hb); clear HO259; clear HO262; clear HB; have HO259 := n0_; have HO262 := n1_; have HB := n2_; clear n0_ n1_ n2_; (try clear hb); (try clear hb2); (try clear hk); (try clear hi)) | (go_at_call 20; (with_reducible refine (laws_cleanOf.calls k _ _ l0 t264 _ ?side1 ?side2 A10.out).mono ?_); (case side1 => repeat (first | exact (Kd.C_below HR0.out HB.out) | (with_reducible refine Kd.C_alloc ?_ _) | (with_reducible refine Kd.C_drewN ?_ _) | (with_reducible refine Kd.C_drew ?_))); (case side2 => exact HC0.out); rintro e w41 ⟨v265, rfl, ho0, hb⟩; have n0_ := Aside0.mk (Kd.R_below (by (with_reducible repeat (first | apply Kd.R_alloc | apply Kd.R_drewN | apply Kd.R_drew)); exact HO259.out) hb); have n1_ := Aside0.mk (Kd.R_below (by (with_reducible repeat (first | apply Kd.R_alloc | apply Kd.R_drewN | apply Kd.R_drew)); exact HO262.out) hb); have n2_ := Aside0.mk (Kd.R_lower ho0 (below_size (by repeat (first | (with_reducible first | exact HB.out | apply below_alloc | apply pw_below_drewN | apply below_drew1) | exact HB.out)))); have n3_ := Aside0.mk (below_step (by repeat (first | (with_reducible first | exact HB.out | apply below_alloc | apply pw_below_drewN | apply below_drew1) | exact HB.out)) hb); clear HO259; clear HO262; clear HB; have HO259 := n0_; have HO262 := n1_; have HO266 := n2_; have HB := n3_; clear n0_ n1_ n2_ n3_; (try clear hb); (try clear hb2); (try clear hk); (try clear hi); (try clear ho0); obtain ⟨Ao42, co42, eo42⟩ := Kd.R_slice HO262.out; subst eo42) | (go_at_call 20; (with_reducible refine (laws_cleanOf.calls k _ _ t260 t267 _ ?side1 ?side2 A11.out).mono ?_); (case side1 => repeat (first | exact (Kd.R_reads' HO262.out).2.2 | (with_reducible refine Kd.C_alloc ?_ _) | (with_reducible refine Kd.C_drewN ?_ _) | (with_reducible refine Kd.C_drew ?_))); (case side2 => exact (Kd.R_reads' HO262.out).2.1); rintro e w43 ⟨v268, rfl, ho0, hb⟩; have n0_ := Aside0.mk (Kd.R_below (by (with_reducible repeat (first | apply Kd.R_alloc | apply Kd.R_drewN | apply Kd.R_drew)); exact HO259.out) hb); have n1_ := Aside0.mk (Kd.R_below (by (with_reducible repeat (first | apply Kd.R_alloc | apply Kd.R_drewN | apply Kd.R_drew)); exact HO262.out) hb); have n2_ := Aside0.mk (Kd.R_elder' (by (with_reducible repeat (first | apply Kd.R_alloc | apply Kd.R_drewN | apply Kd.R_drew)); exact HO266.out) (Kd.R_base ho0) hb); have n3_ := Aside0.mk (Kd.R_lower (Kd.R_new' ho0 (Kd.R_lt (by (with_reducible repeat (first | apply Kd.R_alloc | apply Kd.R_drewN | apply Kd.R_drew)); exact HO266.out))) (below_size (by repeat (first | (with_reducible first | exact HB.out | apply below_alloc | apply pw_below_drewN | apply below_drew1) | exact HB.out)))); have n4_ := Aside0.mk (below_step (by repeat (first | (with_reducible first | exact HB.out | apply below_alloc | apply pw_below_drewN | apply below_drew1) | exact HB.out)) hb); clear HO259; clear HO262; clear HO266; clear HB; have HO259 := n0_; have HO262 := n1_; have HO266 := n2_; have HO269 := n3_; have HB := n4_; clear n0_ n1_ n2_ n3_ n4_; (try clear hb); (try clear hb2); (try clear hk); (try clear hi); (try clear ho0); obtain ⟨Ao44, co44, eo44⟩ := Kd.R_slice HO266.out; subst eo44; obtain ⟨Ao45, co45, eo45⟩ := Kd.R_slice HO269.out; subst eo45) | (go_at_call 23; (with_reducible refine (spec_CleanKept.calls k _ _ t264 _ _ t267 true _ ?side1 ?side2 ?side3 ?side4 A12.out).mono ?_); (case side1 => repeat (first | exact (Kd.R_reads' HO266.out).2.2 | (with_reducible refine Kd.C_alloc ?_ _) | (with_reducible refine Kd.C_drewN ?_ _) | (with_reducible refine Kd.C_drew ?_))); (case side2 => exact (Kd.R_reads' HO266.out).2.1); (case side3 => repeat (first | exact (Kd.R_reads' HO269.out).2.2 | (with_reducible refine Kd.C_alloc ?_ _) | (with_reducible refine Kd.C_drewN ?_ _) | (with_reducible refine Kd.C_drew ?_))); (case side4 => exact (Kd.R_reads' HO269.out).2.1); rintro e w46 ⟨rfl, hb⟩; have n0_ := Aside0.mk (Kd.R_below (by (with_reducible repeat (first | apply Kd.R_alloc | apply Kd.R_drewN | apply Kd.R_drew)); exact HO259.out) hb); have n1_ := Aside0.mk (Kd.R_below (by (with_reducible repeat (first | apply Kd.R_alloc | apply Kd.R_drewN | apply Kd.R_drew)); exact HO262.out) hb); have n2_ := Aside0.mk (Kd.R_below (by (with_reducible repeat (first | apply Kd.R_alloc | apply Kd.R_drewN | apply Kd.R_drew)); exact HO266.out) hb); have n3_ := Aside0.mk (Kd.R_below (by (with_reducible repeat (first | apply Kd.R_alloc | apply Kd.R_drewN | apply Kd.R_drew)); exact HO269.out) hb); have n4_ := Aside0.mk (below_step (by repeat (first | (with_reducible first | exact HB.out | apply below_alloc | apply pw_below_drewN | apply below_drew1) | exact HB.out)) hb); clear HO259; clear HO262; clear HO266; clear HO269; clear HB; have HO259 := n0_; have HO262 := n1_; have HO266 := n2_; have HO269 := n3_; have HB := n4_; clear n0_ n1_ n2_ n3_ n4_; (try clear hb); (try clear hb2); (try clear hk); (try clear hi)))
  go_ret
  exact ⟨by first | rfl | (simp [errW_none, errW_some] <;> rfl) | (simp [*, errW_none, errW_some] <;> rfl), by repeat (first | (with_reducible first | exact HB.out | apply below_alloc | apply pw_below_drewN | apply below_drew1) | exact HB.out)⟩
 rw [if_pos c14] at H
 have c14b0 : decide ((t260.length : Int) ≤ (l0.length : Int)) = true := decide_eq_true c14
 have c14b1 : decide (t260.length ≤ l0.length) = true := decide_eq_true (Int.ofNat_le.mp c14)
 clear c14
 replace H := Option.bind_eq_some_iff.mp H
 obtain ⟨t271, A150, H⟩ := H
 replace H : ((laws_cleanOf.f k t260).bind fun t274 => ((spec_CleanShifted.f k t271 t274).bind fun t277 => (some t277))) = some r := H
 have A15 := Aside0.mk A150
 clear A150
 replace H := Option.bind_eq_some_iff.mp H
 obtain ⟨t274, A160, H⟩ := H
 replace H : ((spec_CleanShifted.f k t271 t274).bind fun t277 => (some t277)) = some r := H
 have A16 := Aside0.mk A160
 clear A160
 replace H := Option.bind_eq_some_iff.mp H
 obtain ⟨t277, A170, H⟩ := H
 replace H : (some t277) = some r := H
 have A17 := Aside0.mk A170
 clear A170
 obtain rfl := Option.some.inj H
 go_enter Tryd.func4, Tryd.ntmps4
 go_wp2_with (first | ((with_reducible refine gate_callee (f := 16) rfl ?_); refine goesL_ (some 5) rfl rfl Tryd.func16 (by kernel_rfl) rfl #[.slice A0 l0.length c0] rfl (by (try simp only [List.map_toArray, List.map_cons, List.map_nil]); first | done | rfl | (simp only [List.length_drop, List.length_take]; rfl)) ?_; (with_reducible refine (laws_zzFits3.calls k _ _ l0 true _ ?side1 ?side2 A2.out).mono ?_); (case side1 => repeat (first | exact HR0.out | (with_reducible refine Kd.C_alloc ?_ _) | (with_reducible refine Kd.C_drewN ?_ _) | (with_reducible refine Kd.C_drew ?_))); (case side2 => exact HC0.out); rintro e w18 ⟨rfl, hb⟩; refine ⟨_, rfl, ?_⟩; have n0_ := Aside0.mk (below_step (by repeat (first | (with_reducible first | exact HB.out | apply below_alloc | apply pw_below_drewN | apply below_drew1) | exact HB.out)) hb); clear HB; have HB := n0_; clear n0_; (try clear hb); (try clear hb2); (try clear hk); (try clear hi)) | ((with_reducible refine gate_callee (f := 17) rfl ?_); refine goesL_ (some 8) rfl rfl Tryd.func17 (by kernel_rfl) rfl #[.slice A0 l0.length c0] rfl (by (try simp only [List.map_toArray, List.map_cons, List.map_nil]); first | done | rfl | (simp only [List.length_drop, List.length_take]; rfl)) ?_; (with_reducible refine (laws_cleanASCII.calls k _ _ l0 true _ ?side1 ?side2 A4.out).mono ?_); (case side1 => repeat (first | exact (Kd.C_below HR0.out HB.out) | (with_reducible refine Kd.C_alloc ?_ _) | (with_reducible refine Kd.C_drewN ?_ _) | (with_reducible refine Kd.C_drew ?_))); (case side2 => exact HC0.out); rintro e w19 ⟨rfl, hb⟩; refine ⟨_, rfl, ?_⟩; have n0_ := Aside0.mk (below_step (by repeat (first | (with_reducible first | exact HB.out | apply below_alloc | apply pw_below_drewN | apply below_drew1) | exact HB.out)) hb); clear HB; have HB := n0_; clear n0_; (try clear hb); (try clear hb2); (try clear hk); (try clear hi)) | ((with_reducible refine gate_callee (f := 22) rfl ?_); refine goesL_ (some 12) rfl rfl Tryd.func22 (by kernel_rfl) rfl #[.slice A0 l0.length c0] rfl (by (try simp only [List.map_toArray, List.map_cons, List.map_nil]); first | done | rfl | (simp only [List.length_drop, List.length_take]; rfl)) ?_; (with_reducible refine (laws_cleanOwn.calls _ _ l0 t257 _ ?side1 ?side2 A6.out).mono ?_); (case side1 => repeat (first | exact (Kd.C_below HR0.out HB.out) | (with_reducible refine Kd.C_alloc ?_ _) | (with_reducible refine Kd.C_drewN ?_ _) | (with_reducible refine Kd.C_drew ?_))); (case side2 => exact HC0.out); rintro e w20 ⟨v258, rfl, ho0, hb⟩; refine ⟨_, rfl, ?_⟩; have n0_ := Aside0.mk (Kd.R_lower ho0 (below_size (by repeat (first | (with_reducible first | exact HB.out | apply below_alloc | apply pw_below_drewN | apply below_drew1) | exact HB.out)))); have n1_ := Aside0.mk (below_step (by repeat (first | (with_reducible first | exact HB.out | apply below_alloc | apply pw_below_drewN | apply below_drew1) | exact HB.out)) hb); clear HB; have HO259 := n0_; have HB := n1_; clear n0_ n1_; (try clear hb); (try clear hb2); (try clear hk); (try clear hi); (try clear ho0); obtain ⟨Ao21, co21, eo21⟩ := Kd.R_slice HO259.out; subst eo21) | ((with_reducible refine gate_callee (f := 21) rfl ?_); refine goesL_ (some 13) rfl rfl Tryd.func21 (by kernel_rfl) rfl #[.slice Ao21 t257.length co21] rfl (by (try simp only [List.map_toArray, List.map_cons, List.map_nil]); first | done | rfl | (simp only [List.length_drop, List.length_take]; rfl)) ?_; (with_reducible refine (impl_CleanLossless.calls k _ _ t257 t260 _ ?side1 ?side2 ?side3 A7.out).mono ?_); (case side1 => exact Glob.below hG_ (by repeat (first | (with_reducible first | exact HB.out | apply below_alloc | apply pw_below_drewN | apply below_drew1) | exact HB.out))); (case side2 => repeat (first | exact (Kd.R_reads' HO259.out).2.2 | (with_reducible refine Kd.C_alloc ?_ _) | (with_reducible refine Kd.C_drewN ?_ _) | (with_reducible refine Kd.C_drew ?_))); (case side3 => exact (Kd.R_reads' HO259.out).2.1); rintro e w22 ⟨v261, rfl, ho0, hb⟩; refine ⟨_, rfl, ?_⟩; have n0_ := Aside0.mk (Kd.R_elder' (by (with_reducible repeat (first | apply Kd.R_alloc | apply Kd.R_drewN | apply Kd.R_drew)); exact HO259.out) (Kd.R_base ho0) hb); have n1_ := Aside0.mk (Kd.R_lower (Kd.R_new' ho0 (Kd.R_lt (by (with_reducible repeat (first | apply Kd.R_alloc | apply Kd.R_drewN | apply Kd.R_drew)); exact HO259.out))) (below_size (by repeat (first | (with_reducible first | exact HB.out | apply below_alloc | apply pw_below_drewN | apply below_drew1) | exact HB.out)))); have n2_ := Aside0.mk (below_step (by repeat (first | (with_reducible first | exact HB.out | apply below_alloc | apply pw_below_drewN | apply below_drew1) | exact HB.out)) hb); clear HO259; clear HB; have HO259 := n0_; have HO262 := n1_; have HB := n2_; clear n0_ n1_ n2_; (try clear hb); (try clear hb2); (try clear hk); (try clear hi); (try clear ho0)) | ((with_reducible refine gate_callee (f := 18) rfl ?_); refine goesL_ (some 14) rfl rfl Tryd.func18 (by kernel_rfl) rfl #[] rfl (by (try simp only [List.map_toArray, List.map_cons, List.map_nil]); first | done | rfl | (simp only [List.length_drop, List.length_take]; rfl)) ?_; (with_reducible refine (laws_cleanAwake.calls k  true _ ?side1 A8.out).mono ?_); (case side1 => exact Glob.below hG_ (by repeat (first | (with_reducible first | exact HB.out | apply below_alloc | apply pw_below_drewN | apply below_drew1) | exact HB.out))); rintro e w23 ⟨rfl, hb⟩; refine ⟨_, rfl, ?_⟩; have n0_ := Aside0.mk (Kd.R_below (by (with_reducible repeat (first | apply Kd.R_alloc | apply Kd.R_drewN | apply Kd.R_drew)); exact HO259.out) hb); have n1_ := Aside0.mk (Kd.R_below (by (with_reducible repeat (first | apply Kd.R_alloc | apply Kd.R_drewN | apply Kd.R_drew)); exact HO262.out) hb); have n2_ := Aside0.mk (below_step (by repeat (first | (with_reducible first | exact HB.out | apply below_alloc | apply pw_below_drewN | apply below_drew1) | exact HB.out)) hb); clear HO259; clear HO262; clear HB; have HO259 := n0_; have HO262 := n1_; have HB := n2_; clear n0_ n1_ n2_; (try clear hb); (try clear hb2); (try clear hk); (try clear hi)) | (go_at_call 20; (with_reducible refine (laws_cleanOf.calls k _ _ l0 t264 _ ?side1 ?side2 A10.out).mono ?_); (case side1 => repeat (first | exact (Kd.C_below HR0.out HB.out) | (with_reducible refine Kd.C_alloc ?_ _) | (with_reducible refine Kd.C_drewN ?_ _) | (with_reducible refine Kd.C_drew ?_))); (case side2 => exact HC0.out); rintro e w24 ⟨v265, rfl, ho0, hb⟩; have n0_ := Aside0.mk (Kd.R_below (by (with_reducible repeat (first | apply Kd.R_alloc | apply Kd.R_drewN | apply Kd.R_drew)); exact HO259.out) hb); have n1_ := Aside0.mk (Kd.R_below (by (with_reducible repeat (first | apply Kd.R_alloc | apply Kd.R_drewN | apply Kd.R_drew)); exact HO262.out) hb); have n2_ := Aside0.mk (Kd.R_lower ho0 (below_size (by repeat (first | (with_reducible first | exact HB.out | apply below_alloc | apply pw_below_drewN | apply below_drew1) | exact HB.out)))); have n3_ := Aside0.mk (below_step (by repeat (first | (with_reducible first | exact HB.out | apply below_alloc | apply pw_below_drewN | apply below_drew1) | exact HB.out)) hb); clear HO259; clear HO262; clear HB; have HO259 := n0_; have HO262 := n1_; have HO266 := n2_; have HB := n3_; clear n0_ n1_ n2_ n3_; (try clear hb); (try clear hb2); (try clear hk); (try clear hi); (try clear ho0); obtain ⟨Ao25, co25, eo25⟩ := Kd.R_slice HO262.out; subst eo25) | (go_at_call 20; (with_reducible refine (laws_cleanOf.calls k _ _ t260 t267 _ ?side1 ?side2 A11.out).mono ?_); (case side1 => repeat (first | exact (Kd.R_reads' HO262.out).2.2 | (with_reducible refine Kd.C_alloc ?_ _) | (with_reducible refine Kd.C_drewN ?_ _) | (with_reducible refine Kd.C_drew ?_))); (case side2 => exact (Kd.R_reads' HO262.out).2.1); rintro e w26 ⟨v268, rfl, ho0, hb⟩; have n0_ := Aside0.mk (Kd.R_below (by (with_reducible repeat (first | apply Kd.R_alloc | apply Kd.R_drewN | apply Kd.R_drew)); exact HO259.out) hb); have n1_ := Aside0.mk (Kd.R_below (by (with_reducible repeat (first | apply Kd.R_alloc | apply Kd.R_drewN | apply Kd.R_drew)); exact HO262.out) hb); have n2_ := Aside0.mk (Kd.R_elder' (by (with_reducible repeat (first | apply Kd.R_alloc | apply Kd.R_drewN | apply Kd.R_drew)); exact HO266.out) (Kd.R_base ho0) hb); have n3_ := Aside0.mk (Kd.R_lower (Kd.R_new' ho0 (Kd.R_lt (by (with_reducible repeat (first | apply Kd.R_alloc | apply Kd.R_drewN | apply Kd.R_drew)); exact HO266.out))) (below_size (by repeat (first | (with_reducible first | exact HB.out | apply below_alloc | apply pw_below_drewN | apply below_drew1) | exact HB.out)))); have n4_ := Aside0.mk (below_step (by repeat (first | (with_reducible first | exact HB.out | apply below_alloc | apply pw_below_drewN | apply below_drew1) | exact HB.out)) hb); clear HO259; clear HO262; clear HO266; clear HB; have HO259 := n0_; have HO262 := n1_; have HO266 := n2_; have HO269 := n3_; have HB := n4_; clear n0_ n1_ n2_ n3_ n4_; (try clear hb); (try clear hb2); (try clear hk); (try clear hi); (try clear ho0); obtain ⟨Ao27, co27, eo27⟩ := Kd.R_slice HO266.out; subst eo27; obtain ⟨Ao28, co28, eo28⟩ := Kd.R_slice HO269.out; subst eo28) | (go_at_call 23; (with_reducible refine (spec_CleanKept.calls k _ _ t264 _ _ t267 true _ ?side1 ?side2 ?side3 ?side4 A12.out).mono ?_); (case side1 => repeat (first | exact (Kd.R_reads' HO266.out).2.2 | (with_reducible refine Kd.C_alloc ?_ _) | (with_reducible refine Kd.C_drewN ?_ _) | (with_reducible refine Kd.C_drew ?_))); (case side2 => exact (Kd.R_reads' HO266.out).2.1); (case side3 => repeat (first | exact (Kd.R_reads' HO269.out).2.2 | (with_reducible refine Kd.C_alloc ?_ _) | (with_reducible refine Kd.C_drewN ?_ _) | (with_reducible refine Kd.C_drew ?_))); (case side4 => exact (Kd.R_reads' HO269.out).2.1); rintro e w29 ⟨rfl, hb⟩; have n0_ := Aside0.mk (Kd.R_below (by (with_reducible repeat (first | apply Kd.R_alloc | apply Kd.R_drewN | apply Kd.R_drew)); exact HO259.out) hb); have n1_ := Aside0.mk (Kd.R_below (by (with_reducible repeat (first | apply Kd.R_alloc | apply Kd.R_drewN | apply Kd.R_drew)); exact HO262.out) hb); have n2_ := Aside0.mk (Kd.R_below (by (with_reducible repeat (first | apply Kd.R_alloc | apply Kd.R_drewN | apply Kd.R_drew)); exact HO266.out) hb); have n3_ := Aside0.mk (Kd.R_below (by (with_reducible repeat (first | apply Kd.R_alloc | apply Kd.R_drewN | apply Kd.R_drew)); exact HO269.out) hb); have n4_ := Aside0.mk (below_step (by repeat (first | (with_reducible first | exact HB.out | apply below_alloc | apply pw_below_drewN | apply below_drew1) | exact HB.out)) hb); clear HO259; clear HO262; clear HO266; clear HO269; clear HB; have HO259 := n0_; have HO262 := n1_; have HO266 := n2_; have HO269 := n3_; have HB := n4_; clear n0_ n1_ n2_ n3_ n4_; (try clear hb); (try clear hb2); (try clear hk); (try clear hi)) | (go_at_call 20; (with_reducible refine (laws_cleanOf.calls k _ _ l0 t271 _ ?side1 ?side2 A15.out).mono ?_); (case side1 => repeat (first | exact (Kd.C_below HR0.out HB.out) | (with_reducible refine Kd.C_alloc ?_ _) | (with_reducible refine Kd.C_drewN ?_ _) | (with_reducible refine Kd.C_drew ?_))); (case side2 => exact HC0.out); rintro e w30 ⟨v272, rfl, ho0, hb⟩; have n0_ := Aside0.mk (Kd.R_below (by (with_reducible repeat (first | apply Kd.R_alloc | apply Kd.R_drewN | apply Kd.R_drew)); exact HO259.out) hb); have n1_ := Aside0.mk (Kd.R_below (by (with_reducible repeat (first | apply Kd.R_alloc | apply Kd.R_drewN | apply Kd.R_drew)); exact HO262.out) hb); have n2_ := Aside0.mk (Kd.R_elder' (by (with_reducible repeat (first | apply Kd.R_alloc | apply Kd.R_drewN | apply Kd.R_drew)); exact HO266.out) (Kd.R_base ho0) hb); have n3_ := Aside0.mk (Kd.R_elder' (by (with_reducible repeat (first | apply Kd.R_alloc | apply Kd.R_drewN | apply Kd.R_drew)); exact HO269.out) (Kd.R_base ho0) hb); have n4_ := Aside0.mk (Kd.R_lower (Kd.R_new' (Kd.R_new' ho0 (Kd.R_lt (by (with_reducible repeat (first | apply Kd.R_alloc | apply Kd.R_drewN | apply Kd.R_drew)); exact HO266.out))) (Kd.R_lt (by (with_reducible repeat (first | apply Kd.R_alloc | apply Kd.R_drewN | apply Kd.R_drew)); exact HO269.out))) (below_size (by repeat (first | (with_reducible first | exact HB.out | apply below_alloc | apply pw_below_drewN | apply below_drew1) | exact HB.out)))); have n5_ := Aside0.mk (below_step (by repeat (first | (with_reducible first | exact HB.out | apply below_alloc | apply pw_below_drewN | apply below_drew1) | exact HB.out)) hb); clear HO259; clear HO262; clear HO266; clear HO269; clear HB; have HO259 := n0_; have HO262 := n1_; have HO266 := n2_; have HO269 := n3_; have HO273 := n4_; have HB := n5_; clear n0_ n1_ n2_ n3_ n4_ n5_; (try clear hb); (try clear hb2); (try clear hk); (try clear hi); (try clear ho0)) | (go_at_call 20; (with_reducible refine (laws_cleanOf.calls k _ _ t260 t274 _ ?side1 ?side2 A16.out).mono ?_); (case side1 => repeat (first | exact (Kd.R_reads' HO262.out).2.2 | (with_reducible refine Kd.C_alloc ?_ _) | (with_reducible refine Kd.C_drewN ?_ _) | (with_reducible refine Kd.C_drew ?_))); (case side2 => exact (Kd.R_reads' HO262.out).2.1); rintro e w31 ⟨v275, rfl, ho0, hb⟩; have n0_ := Aside0.mk (Kd.R_below (by (with_reducible repeat (first | apply Kd.R_alloc | apply Kd.R_drewN | apply Kd.R_drew)); exact HO259.out) hb); have n1_ := Aside0.mk (Kd.R_below (by (with_reducible repeat (first | apply Kd.R_alloc | apply Kd.R_drewN | apply Kd.R_drew)); exact HO262.out) hb); have n2_ := Aside0.mk (Kd.R_elder' (by (with_reducible repeat (first | apply Kd.R_alloc | apply Kd.R_drewN | apply Kd.R_drew)); exact HO266.out) (Kd.R_base ho0) hb); have n3_ := Aside0.mk (Kd.R_elder' (by (with_reducible repeat (first | apply Kd.R_alloc | apply Kd.R_drewN | apply Kd.R_drew)); exact HO269.out) (Kd.R_base ho0) hb); have n4_ := Aside0.mk (Kd.R_elder' (by (with_reducible repeat (first | apply Kd.R_alloc | apply Kd.R_drewN | apply Kd.R_drew)); exact HO273.out) (Kd.R_base ho0) hb); have n5_ := Aside0.mk (Kd.R_lower (Kd.R_new' (Kd.R_new' (Kd.R_new' ho0 (Kd.R_lt (by (with_reducible repeat (first | apply Kd.R_alloc | apply Kd.R_drewN | apply Kd.R_drew)); exact HO266.out))) (Kd.R_lt (by (with_reducible repeat (first | apply Kd.R_alloc | apply Kd.R_drewN | apply Kd.R_drew)); exact HO269.out))) (Kd.R_lt (by (with_reducible repeat (first | apply Kd.R_alloc | apply Kd.R_drewN | apply Kd.R_drew)); exact HO273.out))) (below_size (by repeat (first | (with_reducible first | exact HB.out | apply below_alloc | apply pw_below_drewN | apply below_drew1) | exact HB.out)))); have n6_ := Aside0.mk (below_step (by repeat (first | (with_reducible first | exact HB.out | apply below_alloc | apply pw_below_drewN | apply below_drew1) | exact HB.out)) hb); clear HO259; clear HO262; clear HO266; clear HO269; clear HO273; clear HB; have HO259 := n0_; have HO262 := n1_; have HO266 := n2_; have HO269 := n3_; have HO273 := n4_; have HO276 := n5_; have HB := n6_; clear n0_ n1_ n2_ n3_ n4_ n5_ n6_; (try clear hb); (try clear hb2); (try clear hk); (try clear hi); (try clear ho0); obtain ⟨Ao32, co32, eo32⟩ := Kd.R_slice HO273.out; subst eo32; obtain ⟨Ao33, co33, eo33⟩ := Kd.R_slice HO276.out; subst eo33) | (go_at_call 24; (with_reducible refine (spec_CleanShifted.calls k _ _ t271 _ _ t274 t277 _ ?side1 ?side2 ?side3 ?side4 A17.out).mono ?_); (case side1 => repeat (first | exact (Kd.R_reads' HO273.out).2.2 | (with_reducible refine Kd.C_alloc ?_ _) | (with_reducible refine Kd.C_drewN ?_ _) | (with_reducible refine Kd.C_drew ?_))); (case side2 => exact (Kd.R_reads' HO273.out).2.1); (case side3 => repeat (first | exact (Kd.R_reads' HO276.out).2.2 | (with_reducible refine Kd.C_alloc ?_ _) | (with_reducible refine Kd.C_drewN ?_ _) | (with_reducible refine Kd.C_drew ?_))); (case side4 => exact (Kd.R_reads' HO276.out).2.1); rintro e w34 ⟨rfl, hb⟩; have n0_ := Aside0.mk (Kd.R_below (by (with_reducible repeat (first | apply Kd.R_alloc | apply Kd.R_drewN | apply Kd.R_drew)); exact HO259.out) hb); have n1_ := Aside0.mk (Kd.R_below (by (with_reducible repeat (first | apply Kd.R_alloc | apply Kd.R_drewN | apply Kd.R_drew)); exact HO262.out) hb); have n2_ := Aside0.mk (Kd.R_below (by (with_reducible repeat (first | apply Kd.R_alloc | apply Kd.R_drewN | apply Kd.R_drew)); exact HO266.out) hb); have n3_ := Aside0.mk (Kd.R_below (by (with_reducible repeat (first | apply Kd.R_alloc | apply Kd.R_drewN | apply Kd.R_drew)); exact HO269.out) hb); have n4_ := Aside0.mk (Kd.R_below (by (with_reducible repeat (first | apply Kd.R_alloc | apply Kd.R_drewN | apply Kd.R_drew)); exact HO273.out) hb); have n5_ := Aside0.mk (Kd.R_below (by (with_reducible repeat (first | apply Kd.R_alloc | apply Kd.R_drewN | apply Kd.R_drew)); exact HO276.out) hb); have n6_ := Aside0.mk (below_step (by repeat (first | (with_reducible first | exact HB.out | apply below_alloc | apply pw_below_drewN | apply below_drew1) | exact HB.out)) hb); clear HO259; clear HO262; clear HO266; clear HO269; clear HO273; clear HO276; clear HB; have HO259 := n0_; have HO262 := n1_; have HO266 := n2_; have HO269 := n3_; have HO273 := n4_; have HO276 := n5_; have HB := n6_; clear n0_ n1_ n2_ n3_ n4_ n5_ n6_; (try clear hb); (try clear hb2); (try clear hk); (try clear hi)))
 go_ret
 exact ⟨by first | rfl | (simp [errW_none, errW_some] <;> rfl) | (simp [*, errW_none, errW_some] <;> rfl), by repeat (first | (with_reducible first | exact HB.out | apply below_alloc | apply pw_below_drewN | apply below_drew1) | exact HB.out)⟩
end Go.Proofs.YtaabfadjemmibaaDoor.P