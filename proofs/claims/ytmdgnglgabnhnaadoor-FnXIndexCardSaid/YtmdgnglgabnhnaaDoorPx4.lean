-- Written by a program of this session (wip/tools): the printer's text for functions of the seat YtmdgnglgabnhnaaDoor. Not trusted: Lean checks it.
import Derived.Test.YtmdgnglgabnhnaaDoorPx0
import Derived.Test.YtmdgnglgabnhnaaDoorPx2
import Derived.Test.YtmdgnglgabnhnaaDoorPx3
import Derived.Test.YtmdgnglgabnhnaaDoorXPlain
namespace Go.Proofs.YtmdgnglgabnhnaaDoor.P
open Go.RowKit Go.Proofs.YtmdgnglgabnhnaaDoorW.PrintWords Go.Proofs.YtmdgnglgabnhnaaDoorW.PrintLast Go.Proofs.YtmdgnglgabnhnaaDoorW.PrintMore
attribute [local go_sem] max2_int min2_int max_two min_two max_three min_three max_four min_four   -- for this text's walks alone
open Go.Proofs.YtmdgnglgabnhnaaDoorX
set_option linter.unusedVariables false
set_option linter.unusedSimpArgs false

/-! ### diffmatchpatch_DiffMatchPatch_DiffXIndex: function 41 -/
mutual
def diffmatchpatch_DiffMatchPatch_DiffXIndex.l0 : Nat → List (S76) → Int → Int → Int → Int → Int → Int → Int → ByteArray → Option (Int)
  | 0, _, _, _, _, _, _, _, _, _ => none
  | k + 1, x1, x2, x7, x8, x9, x10, x12, x191000, x191001 => if x12 < (x1.length : Int) then (if 0 ≤ x12 then (if ((rd_T76 x1 x12).f0) = 1 then (diffmatchpatch_DiffMatchPatch_DiffXIndex.j1 k x1 x2 x7 x8 x9 x10 x12 x191000 x191001 ((rd_T76 x1 x12).f0) ((rd_T76 x1 x12).f1)) else (diffmatchpatch_DiffMatchPatch_DiffXIndex.j1 k x1 x2 (wrap64 (x7 + (((rd_T76 x1 x12).f1).size : Int))) x8 x9 x10 x12 x191000 x191001 ((rd_T76 x1 x12).f0) ((rd_T76 x1 x12).f1))) else (none)) else (if x191000 = (-1) then (some x10) else (some (wrap64 (x10 + (wrap64 (x2 - x9))))))
def diffmatchpatch_DiffMatchPatch_DiffXIndex.j1 : Nat → List (S76) → Int → Int → Int → Int → Int → Int → Int → ByteArray → Int → ByteArray → Option (Int)
  | 0, _, _, _, _, _, _, _, _, _, _, _ => none
  | k + 1, x1, x2, x7, x8, x9, x10, x12, x191000, x191001, x193000, x193001 => if x193000 = (-1) then (if x7 > x2 then (some x10) else (diffmatchpatch_DiffMatchPatch_DiffXIndex.l0 k x1 x2 x7 x8 x7 x8 (wrap64 (x12 + 1)) x191000 x191001)) else (if x7 > x2 then (some (wrap64 (x10 + (wrap64 (x2 - x9))))) else (diffmatchpatch_DiffMatchPatch_DiffXIndex.l0 k x1 x2 x7 (wrap64 (x8 + (x193001.size : Int))) x7 (wrap64 (x8 + (x193001.size : Int))) (wrap64 (x12 + 1)) x191000 x191001))
end
def diffmatchpatch_DiffMatchPatch_DiffXIndex.f (k : Nat)  (l1 : List (S76)) (a2 : Int) : Option (Int) := diffmatchpatch_DiffMatchPatch_DiffXIndex.l0 k l1 a2 0 0 0 0 0 0 (⟨#[]⟩ : ByteArray)
theorem diffmatchpatch_DiffMatchPatch_DiffXIndex.mono_l : ∀ k, (∀ y0 y1 y2 y3 y4 y5 y6 y7 y8, LeO (diffmatchpatch_DiffMatchPatch_DiffXIndex.l0 k y0 y1 y2 y3 y4 y5 y6 y7 y8) (diffmatchpatch_DiffMatchPatch_DiffXIndex.l0 (k + 1) y0 y1 y2 y3 y4 y5 y6 y7 y8)) ∧ (∀ y0 y1 y2 y3 y4 y5 y6 y7 y8 y9 y10, LeO (diffmatchpatch_DiffMatchPatch_DiffXIndex.j1 k y0 y1 y2 y3 y4 y5 y6 y7 y8 y9 y10) (diffmatchpatch_DiffMatchPatch_DiffXIndex.j1 (k + 1) y0 y1 y2 y3 y4 y5 y6 y7 y8 y9 y10))
  | 0 => ⟨fun _ _ _ _ _ _ _ _ _ r h => by simp [diffmatchpatch_DiffMatchPatch_DiffXIndex.l0] at h, fun _ _ _ _ _ _ _ _ _ _ _ r h => by simp [diffmatchpatch_DiffMatchPatch_DiffXIndex.j1] at h⟩
  | k + 1 => by
    obtain ⟨ih0, ih1⟩ := diffmatchpatch_DiffMatchPatch_DiffXIndex.mono_l k
    refine ⟨?_, ?_⟩
    · intro y0 y1 y2 y3 y4 y5 y6 y7 y8
      unfold diffmatchpatch_DiffMatchPatch_DiffXIndex.l0
      repeat' first
      | (with_reducible exact ih0 _ _ _ _ _ _ _ _ _)
      | (with_reducible exact ih1 _ _ _ _ _ _ _ _ _ _ _)
      | (with_reducible exact LeO.refl _)
      | (with_reducible exact LeO.none _)
      | (with_reducible refine LeO.ite ?_ ?_)
      | (with_reducible refine LeO.bind ?_ (fun _ => ?_))
      | exact ih0 _ _ _ _ _ _ _ _ _
      | exact ih1 _ _ _ _ _ _ _ _ _ _ _
      | exact LeO.none _
      | refine LeO.ite ?_ ?_
      | refine LeO.bind ?_ (fun _ => ?_)
    · intro y0 y1 y2 y3 y4 y5 y6 y7 y8 y9 y10
      unfold diffmatchpatch_DiffMatchPatch_DiffXIndex.j1
      repeat' first
      | (with_reducible exact ih0 _ _ _ _ _ _ _ _ _)
      | (with_reducible exact ih1 _ _ _ _ _ _ _ _ _ _ _)
      | (with_reducible exact LeO.refl _)
      | (with_reducible exact LeO.none _)
      | (with_reducible refine LeO.ite ?_ ?_)
      | (with_reducible refine LeO.bind ?_ (fun _ => ?_))
      | exact ih0 _ _ _ _ _ _ _ _ _
      | exact ih1 _ _ _ _ _ _ _ _ _ _ _
      | exact LeO.none _
      | refine LeO.ite ?_ ?_
      | refine LeO.bind ?_ (fun _ => ?_)
theorem diffmatchpatch_DiffMatchPatch_DiffXIndex.mono : ∀ a0 a1 k, LeO (diffmatchpatch_DiffMatchPatch_DiffXIndex.f k a0 a1) (diffmatchpatch_DiffMatchPatch_DiffXIndex.f (k + 1) a0 a1) := by
  intro a0 a1 k
  obtain ⟨ih0, ih1⟩ := diffmatchpatch_DiffMatchPatch_DiffXIndex.mono_l k
  unfold diffmatchpatch_DiffMatchPatch_DiffXIndex.f
  repeat' first
      | (with_reducible exact ih0 _ _ _ _ _ _ _ _ _)
      | (with_reducible exact ih1 _ _ _ _ _ _ _ _ _ _ _)
      | (with_reducible exact LeO.refl _)
      | (with_reducible exact LeO.none _)
      | (with_reducible refine LeO.ite ?_ ?_)
      | (with_reducible refine LeO.bind ?_ (fun _ => ?_))
      | exact ih0 _ _ _ _ _ _ _ _ _
      | exact ih1 _ _ _ _ _ _ _ _ _ _ _
      | exact LeO.none _
      | refine LeO.ite ?_ ?_
      | refine LeO.bind ?_ (fun _ => ?_)
set_option maxHeartbeats 8000000 in
set_option maxRecDepth 100000 in
theorem diffmatchpatch_DiffMatchPatch_DiffXIndex.calls (k : Nat) (p0_ : Value) (A1 : Option Addr) (c1 : Nat) (l1 : List (S76)) (a2 : Int) (r : Int) (w : World) (hr1 : Kd.C k76 w A1 l1.length l1) (hc1 : l1.length ≤ c1) (h : diffmatchpatch_DiffMatchPatch_DiffXIndex.f k l1 a2 = some r) :
    Calls Tryd.prog 41 #[p0_, .slice A1 l1.length c1, .int .i64 a2] w fun e w' => e = .returned (.int .i64 r) ∧ Below w.heap.size w w' := by
  have hu76 := Tryd.underlying76
  have HR1 := Aside0.mk hr1
  have HC1 := Aside0.mk hc1
  clear hr1 hc1
  have HB := Aside0.mk (Below.refl w.heap.size w)
  have H : (diffmatchpatch_DiffMatchPatch_DiffXIndex.l0 k l1 a2 0 0 0 0 0 0 (⟨#[]⟩ : ByteArray)) = some r := h
  clear h
  have H' := Aside0.mk H
  clear H
  go_enter Tryd.func41, Tryd.ntmps41
  go_wp2_with (first | ((with_reducible refine gate_dst (N := 11) rfl ?_); refine box_event ?hg (N := 11) ?hd (cs := #[.int .i8 0, .string (⟨#[]⟩ : ByteArray)]) (t := 76) ?hr ?_; (case hd => rfl); (case hg => rfl); (case hr => first | (go_simp; done) | (go_simp; rfl)); intro gb190 hg w4 hbox hb; have n0_ := Aside0.mk (below_step (by repeat (first | (with_reducible first | exact HB.out | apply below_alloc | apply pw_below_drewN | apply below_drew1) | exact HB.out)) hb); have n1_ := Aside0.mk (hbox); have n2_ := Aside0.mk ((by rw [hg]; exact (below_size (by repeat (first | (with_reducible first | exact HB.out | apply below_alloc | apply pw_below_drewN | apply below_drew1) | exact HB.out))) : w.heap.size ≤ gb190)); have n3_ := Aside0.mk ((by rw [hg]; exact (below_size (by repeat (first | (with_reducible first | exact HB.out | apply below_alloc | apply pw_below_drewN | apply below_drew1) | exact HB.out))) : w.heap.size ≤ gb190)); clear HB; have HB := n0_; have BK190 := n1_; have GW190 := n2_; have GE190 := n3_; clear n0_ n1_ n2_ n3_; clear hb hbox hg; have hcz5_0 : w4.cell? ⟨gb190, 0, none⟩ = some (.int .i8 0) := (blk_cell BK190.out 0).trans rfl; have hcz5_1 : w4.cell? ⟨gb190, 1, none⟩ = some (.string (⟨#[]⟩ : ByteArray)) := (blk_cell BK190.out 1).trans rfl; have hfz5_0 := blk_frozen BK190.out 0; have hfz5_1 := blk_frozen BK190.out 1))
  go_loopg [7, 8, 9, 10, 12] k (fun kq v7 v8 v9 v10 v12 w' => ∃ (x7_1 : Int) (x8_1 : Int) (x9_1 : Int) (x10_1 : Int) (x12_1 : Int) (x191000_1 : Int) (x191001_1 : ByteArray), v7 = .int .i64 x7_1 ∧ v8 = .int .i64 x8_1 ∧ v9 = .int .i64 x9_1 ∧ v10 = .int .i64 x10_1 ∧ v12 = .int .i64 x12_1 ∧ Aside0 (diffmatchpatch_DiffMatchPatch_DiffXIndex.l0 kq l1 a2 x7_1 x8_1 x9_1 x10_1 x12_1 x191000_1 x191001_1 = some r) ∧ Aside0 (kq ≤ k) ∧ Aside0 (w'.heap[gb190]? = some (.cells #[.int .i8 x191000_1, .string x191001_1] 76 (0, 0))) ∧ Aside0 (Below w.heap.size w w'))
  case atStart => exact ⟨(0), (0), (0), (0), (0), (0), ((⟨#[]⟩ : ByteArray)), (by first | rfl | (simp; done) | (simp [*]; done)), (by first | rfl | (simp; done) | (simp [*]; done)), (by first | rfl | (simp; done) | (simp [*]; done)), (by first | rfl | (simp; done) | (simp [*]; done)), (by first | rfl | (simp; done) | (simp [*]; done)), H', ⟨Nat.le_refl _⟩, ⟨by (with_reducible repeat (first | refine blk_drewN ?_ _ | refine blk_drew ?_ | refine blk_alloc ?_ _)); refine blk_put (cs := #[.int .i8 0, .string (⟨#[]⟩ : ByteArray)]) ?_ 1 _ rfl; (with_reducible repeat (first | refine blk_drewN ?_ _ | refine blk_drew ?_ | refine blk_alloc ?_ _)); refine blk_put (cs := #[.int .i8 0, .string (⟨#[]⟩ : ByteArray)]) ?_ 0 _ rfl; (with_reducible repeat (first | refine blk_drewN ?_ _ | refine blk_drew ?_ | refine blk_alloc ?_ _)); exact BK190.out⟩, ⟨by repeat (first | (with_reducible first | exact HB.out | apply below_alloc | apply pw_below_drewN | apply below_drew1 | refine below_set ?_ GE190.out) | exact HB.out)⟩⟩
  case round =>
    clear H'
    try clear c1
    try clear p2
    try clear c4
    try clear hcz5_0
    try clear hcz5_1
    try clear hfz5_0
    try clear hfz5_1
    obtain ⟨x7_1, x8_1, x9_1, x10_1, x12_1, x191000_1, x191001_1, rfl, rfl, rfl, rfl, rfl, HA, HK1, BK190, HB⟩ := hrel
    cases gk with
    | zero => exact absurd HA.out (by simp [diffmatchpatch_DiffMatchPatch_DiffXIndex.l0])
    | succ k1 =>
      have H := HA.out
      clear HA
      simp only [diffmatchpatch_DiffMatchPatch_DiffXIndex.l0] at H
      by_cases c6 : x12_1 < (l1.length : Int)
      · rw [if_pos c6] at H
        have c6b0 : decide (x12_1 < (l1.length : Int)) = true := decide_eq_true c6
        clear c6
        by_cases c7 : 0 ≤ x12_1
        · rw [if_pos c7] at H
          have c7b0 : decide (0 ≤ x12_1) = true := decide_eq_true c7
          clear c7
          have HC8 := Aside0.mk H
          clear H
          have p191 : 0 ≤ (x12_1 : Int) := of_decide_eq_true (by first | (with_reducible assumption) | assumption)
          have q191 : x12_1 < (l1.length : Int) := of_decide_eq_true (by first | (with_reducible assumption) | assumption)
          obtain ⟨ad191, e191, hx191_0, hx191_1⟩ := at_T76 HR1.out x12_1 p191 q191
          cases e191
          replace hx191_0 := (HB.out.cell (World.block_lt_of_cell? w _ hx191_0)).trans hx191_0
          replace hx191_1 := (HB.out.cell (World.block_lt_of_cell? w _ hx191_1)).trans hx191_1
          replace p191 := eq_true p191
          replace q191 := eq_true q191
          go_upto_if 27 with (first | ((with_reducible refine gate_dst (N := 13) rfl ?_); refine box_event ?hg (N := 13) ?hd (cs := #[.int .i8 0, .string (⟨#[]⟩ : ByteArray)]) (t := 76) ?hr ?_; (case hd => rfl); (case hg => rfl); (case hr => first | (go_simp; done) | (go_simp; rfl)); intro gb192 hg w9 hbox hb; have n0_ := Aside0.mk (blk_below (g := gb190) (o := .cells #[.int .i8 x191000_1, .string x191001_1] 76 (0, 0)) (by (with_reducible repeat (first | refine blk_drewN ?_ _ | refine blk_drew ?_ | refine blk_alloc ?_ _)); exact BK190.out) hb); have n1_ := Aside0.mk (below_step (by repeat (first | (with_reducible first | exact HB.out | apply below_alloc | apply pw_below_drewN | apply below_drew1 | refine below_set ?_ GE190.out) | exact HB.out)) hb); have n2_ := Aside0.mk (hbox); have n3_ := Aside0.mk ((by rw [hg]; exact (below_size (by repeat (first | (with_reducible first | exact HB.out | apply below_alloc | apply pw_below_drewN | apply below_drew1 | refine below_set ?_ GE190.out) | exact HB.out))) : w.heap.size ≤ gb192)); have n4_ := Aside0.mk ((by rw [hg]; exact (below_size (by repeat (first | (with_reducible first | exact HB.out | apply below_alloc | apply pw_below_drewN | apply below_drew1 | refine below_set ?_ GE190.out) | exact HB.out))) : w.heap.size ≤ gb192)); have n5_ := Aside0.mk ((by rw [hg]; exact Nat.ne_of_lt (blk_lt (g := gb190) (o := .cells #[.int .i8 x191000_1, .string x191001_1] 76 (0, 0)) (by (with_reducible repeat (first | refine blk_drewN ?_ _ | refine blk_drew ?_ | refine blk_alloc ?_ _)); exact BK190.out)) : gb190 ≠ gb192)); have n6_ := Aside0.mk ((by rw [hg]; exact Nat.ne_of_gt (blk_lt (g := gb190) (o := .cells #[.int .i8 x191000_1, .string x191001_1] 76 (0, 0)) (by (with_reducible repeat (first | refine blk_drewN ?_ _ | refine blk_drew ?_ | refine blk_alloc ?_ _)); exact BK190.out)) : gb192 ≠ gb190)); clear BK190; clear HB; have BK190 := n0_; have HB := n1_; have BK192 := n2_; have GW192 := n3_; have GE192 := n4_; have NB190_192 := n5_; have NB192_190 := n6_; clear n0_ n1_ n2_ n3_ n4_ n5_ n6_; clear hb hbox hg; have hnb10 := NB192_190.out; have hnc10 := NB190_192.out; have hcz11_0 : w9.cell? ⟨gb192, 0, none⟩ = some (.int .i8 0) := (blk_cell BK192.out 0).trans rfl; have hcz11_1 : w9.cell? ⟨gb192, 1, none⟩ = some (.string (⟨#[]⟩ : ByteArray)) := (blk_cell BK192.out 1).trans rfl; have hfz11_0 := blk_frozen BK192.out 0; have hfz11_1 := blk_frozen BK192.out 1))
          (try simp only [Act.put, List.setIfInBounds_toArray, List.set_cons_zero, List.set_cons_succ])
          go_cut [7] (fun v7 wc => ∃ (kq : Nat) (x7_7 : Int), v7 = .int .i64 x7_7 ∧ Aside0 (diffmatchpatch_DiffMatchPatch_DiffXIndex.j1 kq l1 a2 x7_7 x8_1 x9_1 x10_1 x12_1 x191000_1 x191001_1 ((rd_T76 l1 x12_1).f0) ((rd_T76 l1 x12_1).f1) = some r) ∧ Aside0 (kq ≤ k1) ∧ Aside0 (wc.heap[gb190]? = some (.cells #[.int .i8 x191000_1, .string x191001_1] 76 (0, 0))) ∧ Aside0 (wc.heap[gb192]? = some (.cells #[.int .i8 ((rd_T76 l1 x12_1).f0), .string ((rd_T76 l1 x12_1).f1)] 76 (0, 0))) ∧ Aside0 (Below w.heap.size w wc))
          case first =>
            have H := HC8.out
            clear HC8
            by_cases c12 : ((rd_T76 l1 x12_1).f0) = 1
            · rw [if_pos c12] at H
              have c12b0 : (((rd_T76 l1 x12_1).f0) == 1) = true := beq_iff_eq.mpr c12
              have c12b1 : (((rd_T76 l1 x12_1).f0) != 1) = false := bne_eq_false_iff_eq.mpr c12
              clear c12
              (first | rw [c12b0] | (simp only [i64_w, i32_w]; rw [c12b0]) | skip)
              have H' := Aside0.mk H
              clear H
              go_wp2
              go_meet
              case rel => exact ⟨_, (x7_1), (by first | rfl | (simp; done) | (simp [*]; done)), H', ⟨by have := HK1.out; first | omega | exact Nat.le_refl _⟩, ⟨by (with_reducible repeat (first | refine blk_drewN ?_ _ | refine blk_drew ?_ | refine blk_alloc ?_ _)); refine blk_far ?_ NB190_192.out _; (with_reducible repeat (first | refine blk_drewN ?_ _ | refine blk_drew ?_ | refine blk_alloc ?_ _)); refine blk_far ?_ NB190_192.out _; (with_reducible repeat (first | refine blk_drewN ?_ _ | refine blk_drew ?_ | refine blk_alloc ?_ _)); exact BK190.out⟩, ⟨by (with_reducible repeat (first | refine blk_drewN ?_ _ | refine blk_drew ?_ | refine blk_alloc ?_ _)); refine blk_put (cs := #[.int .i8 ((rd_T76 l1 x12_1).f0), .string (⟨#[]⟩ : ByteArray)]) ?_ 1 _ rfl; (with_reducible repeat (first | refine blk_drewN ?_ _ | refine blk_drew ?_ | refine blk_alloc ?_ _)); refine blk_put (cs := #[.int .i8 0, .string (⟨#[]⟩ : ByteArray)]) ?_ 0 _ rfl; (with_reducible repeat (first | refine blk_drewN ?_ _ | refine blk_drew ?_ | refine blk_alloc ?_ _)); exact BK192.out⟩, ⟨by repeat (first | (with_reducible first | exact HB.out | apply below_alloc | apply pw_below_drewN | apply below_drew1 | refine below_set ?_ GE190.out | refine below_set ?_ GE192.out) | exact HB.out)⟩⟩
            · rw [if_neg c12] at H
              have c12b0 : (((rd_T76 l1 x12_1).f0) == 1) = false := beq_eq_false_iff_ne.mpr c12
              have c12b1 : (((rd_T76 l1 x12_1).f0) != 1) = true := bne_iff_ne.mpr c12
              (first | rw [c12b0] | (simp only [i64_w, i32_w]; rw [c12b0]) | skip)
              have H' := Aside0.mk H
              clear H
              have hnb13 := NB192_190.out
              have hnc13 := NB190_192.out
              have hcz14_0 : w9.cell? ⟨gb192, 0, none⟩ = some (.int .i8 0) := (blk_cell BK192.out 0).trans rfl
              have hcz14_1 : w9.cell? ⟨gb192, 1, none⟩ = some (.string (⟨#[]⟩ : ByteArray)) := (blk_cell BK192.out 1).trans rfl
              have hfz14_0 := blk_frozen BK192.out 0
              have hfz14_1 := blk_frozen BK192.out 1
              go_wp2
              go_meet
              case rel => exact ⟨_, (wrap64 (x7_1 + (((rd_T76 l1 x12_1).f1).size : Int))), (by first | rfl | (simp; done) | (simp [*]; done)), H', ⟨by have := HK1.out; first | omega | exact Nat.le_refl _⟩, ⟨by (with_reducible repeat (first | refine blk_drewN ?_ _ | refine blk_drew ?_ | refine blk_alloc ?_ _)); refine blk_far ?_ NB190_192.out _; (with_reducible repeat (first | refine blk_drewN ?_ _ | refine blk_drew ?_ | refine blk_alloc ?_ _)); refine blk_far ?_ NB190_192.out _; (with_reducible repeat (first | refine blk_drewN ?_ _ | refine blk_drew ?_ | refine blk_alloc ?_ _)); exact BK190.out⟩, ⟨by (with_reducible repeat (first | refine blk_drewN ?_ _ | refine blk_drew ?_ | refine blk_alloc ?_ _)); refine blk_put (cs := #[.int .i8 ((rd_T76 l1 x12_1).f0), .string (⟨#[]⟩ : ByteArray)]) ?_ 1 _ rfl; (with_reducible repeat (first | refine blk_drewN ?_ _ | refine blk_drew ?_ | refine blk_alloc ?_ _)); refine blk_put (cs := #[.int .i8 0, .string (⟨#[]⟩ : ByteArray)]) ?_ 0 _ rfl; (with_reducible repeat (first | refine blk_drewN ?_ _ | refine blk_drew ?_ | refine blk_alloc ?_ _)); exact BK192.out⟩, ⟨by repeat (first | (with_reducible first | exact HB.out | apply below_alloc | apply pw_below_drewN | apply below_drew1 | refine below_set ?_ GE190.out | refine below_set ?_ GE192.out) | exact HB.out)⟩⟩
          case rest =>
            clear HC8
            try clear c1
            try clear p1
            try clear q1
            try clear hx1
            try clear p2
            try clear c4
            try clear c6
            try clear c6b0
            try clear p6
            try clear c7
            try clear c7b0
            try clear c10
            try clear c12
            try clear c12b0
            try clear c12b1
            try clear c13
            try clear hcz11_0
            try clear hcz11_1
            try clear hcz14_0
            try clear hcz14_1
            try clear hcz5_0
            try clear hcz5_1
            try clear hfz11_0
            try clear hfz11_1
            try clear hfz14_0
            try clear hfz14_1
            try clear hfz5_0
            try clear hfz5_1
            try clear hx191_0
            try clear hx191_1
            try clear p191
            try clear p2
            try clear q191
            obtain ⟨kq, x7_7, rfl, HA, HJ7, BK190, BK192, HB⟩ := hcut
            cases kq with
            | zero => exact absurd HA.out (by simp [diffmatchpatch_DiffMatchPatch_DiffXIndex.j1])
            | succ kj7 =>
              have H := HA.out
              clear HA
              simp only [diffmatchpatch_DiffMatchPatch_DiffXIndex.j1] at H
              by_cases c15 : ((rd_T76 l1 x12_1).f0) = (-1)
              · rw [if_pos c15] at H
                have c15b0 : (((rd_T76 l1 x12_1).f0) == (-1)) = true := beq_iff_eq.mpr c15
                have c15b1 : (((rd_T76 l1 x12_1).f0) != (-1)) = false := bne_eq_false_iff_eq.mpr c15
                clear c15
                by_cases c16 : x7_7 > a2
                · rw [if_pos c16] at H
                  have c16b0 : decide (a2 < x7_7) = true := decide_eq_true c16
                  clear c16
                  obtain rfl := Option.some.inj H
                  have hnb17 := NB192_190.out
                  have hnc17 := NB190_192.out
                  have hcz18_0 : wc.cell? ⟨gb192, 0, none⟩ = some (.int .i8 ((rd_T76 l1 x12_1).f0)) := (blk_cell BK192.out 0).trans rfl
                  have hcz18_1 : wc.cell? ⟨gb192, 1, none⟩ = some (.string ((rd_T76 l1 x12_1).f1)) := (blk_cell BK192.out 1).trans rfl
                  have hfz18_0 := blk_frozen BK192.out 0
                  have hfz18_1 := blk_frozen BK192.out 1
                  have hcz19_0 : wc.cell? ⟨gb190, 0, none⟩ = some (.int .i8 x191000_1) := (blk_cell BK190.out 0).trans rfl
                  have hcz19_1 : wc.cell? ⟨gb190, 1, none⟩ = some (.string x191001_1) := (blk_cell BK190.out 1).trans rfl
                  have hfz19_0 := blk_frozen BK190.out 0
                  have hfz19_1 := blk_frozen BK190.out 1
                  go_wp2
                  go_ret
                  exact ⟨by first | rfl | (simp [errW_none, errW_some] <;> rfl) | (simp [*, errW_none, errW_some] <;> rfl), by repeat (first | (with_reducible first | exact HB.out | apply below_alloc | apply pw_below_drewN | apply below_drew1 | refine below_set ?_ GE190.out | refine below_set ?_ GE192.out) | exact HB.out)⟩
                · rw [if_neg c16] at H
                  have c16b0 : decide (a2 < x7_7) = false := decide_eq_false c16
                  clear c16
                  have H' := Aside0.mk H
                  clear H
                  have hnb20 := NB192_190.out
                  have hnc20 := NB190_192.out
                  have hcz21_0 : wc.cell? ⟨gb192, 0, none⟩ = some (.int .i8 ((rd_T76 l1 x12_1).f0)) := (blk_cell BK192.out 0).trans rfl
                  have hcz21_1 : wc.cell? ⟨gb192, 1, none⟩ = some (.string ((rd_T76 l1 x12_1).f1)) := (blk_cell BK192.out 1).trans rfl
                  have hfz21_0 := blk_frozen BK192.out 0
                  have hfz21_1 := blk_frozen BK192.out 1
                  go_wp2
                  go_roundg kj7
                  case measure => have := HK1.out; have := HJ7.out; omega
                  case rel => exact ⟨(x7_7), (x8_1), (x7_7), (x8_1), (wrap64 (x12_1 + 1)), (x191000_1), (x191001_1), (by first | rfl | (simp; done) | (simp [*]; done)), (by first | rfl | (simp; done) | (simp [*]; done)), (by first | rfl | (simp; done) | (simp [*]; done)), (by first | rfl | (simp; done) | (simp [*]; done)), (by first | rfl | (simp; done) | (simp [*]; done)), H', ⟨by have := HK1.out; have := HJ7.out; omega⟩, ⟨by (with_reducible repeat (first | refine blk_drewN ?_ _ | refine blk_drew ?_ | refine blk_alloc ?_ _)); exact BK190.out⟩, ⟨by repeat (first | (with_reducible first | exact HB.out | apply below_alloc | apply pw_below_drewN | apply below_drew1 | refine below_set ?_ GE190.out | refine below_set ?_ GE192.out) | exact HB.out)⟩⟩
              · rw [if_neg c15] at H
                have c15b0 : (((rd_T76 l1 x12_1).f0) == (-1)) = false := beq_eq_false_iff_ne.mpr c15
                have c15b1 : (((rd_T76 l1 x12_1).f0) != (-1)) = true := bne_iff_ne.mpr c15
                by_cases c22 : x7_7 > a2
                · rw [if_pos c22] at H
                  have c22b0 : decide (a2 < x7_7) = true := decide_eq_true c22
                  clear c22
                  obtain rfl := Option.some.inj H
                  have hnb23 := NB192_190.out
                  have hnc23 := NB190_192.out
                  have hcz24_0 : wc.cell? ⟨gb192, 0, none⟩ = some (.int .i8 ((rd_T76 l1 x12_1).f0)) := (blk_cell BK192.out 0).trans rfl
                  have hcz24_1 : wc.cell? ⟨gb192, 1, none⟩ = some (.string ((rd_T76 l1 x12_1).f1)) := (blk_cell BK192.out 1).trans rfl
                  have hfz24_0 := blk_frozen BK192.out 0
                  have hfz24_1 := blk_frozen BK192.out 1
                  have hcz25_0 : wc.cell? ⟨gb190, 0, none⟩ = some (.int .i8 x191000_1) := (blk_cell BK190.out 0).trans rfl
                  have hcz25_1 : wc.cell? ⟨gb190, 1, none⟩ = some (.string x191001_1) := (blk_cell BK190.out 1).trans rfl
                  have hfz25_0 := blk_frozen BK190.out 0
                  have hfz25_1 := blk_frozen BK190.out 1
                  go_wp2
                  go_ret
                  exact ⟨by first | rfl | (simp [errW_none, errW_some] <;> rfl) | (simp [*, errW_none, errW_some] <;> rfl), by repeat (first | (with_reducible first | exact HB.out | apply below_alloc | apply pw_below_drewN | apply below_drew1 | refine below_set ?_ GE190.out | refine below_set ?_ GE192.out) | exact HB.out)⟩
                · rw [if_neg c22] at H
                  have c22b0 : decide (a2 < x7_7) = false := decide_eq_false c22
                  clear c22
                  have H' := Aside0.mk H
                  clear H
                  have hnb26 := NB192_190.out
                  have hnc26 := NB190_192.out
                  have hcz27_0 : wc.cell? ⟨gb192, 0, none⟩ = some (.int .i8 ((rd_T76 l1 x12_1).f0)) := (blk_cell BK192.out 0).trans rfl
                  have hcz27_1 : wc.cell? ⟨gb192, 1, none⟩ = some (.string ((rd_T76 l1 x12_1).f1)) := (blk_cell BK192.out 1).trans rfl
                  have hfz27_0 := blk_frozen BK192.out 0
                  have hfz27_1 := blk_frozen BK192.out 1
                  go_wp2
                  go_roundg kj7
                  case measure => have := HK1.out; have := HJ7.out; omega
                  case rel => exact ⟨(x7_7), (wrap64 (x8_1 + (((rd_T76 l1 x12_1).f1).size : Int))), (x7_7), (wrap64 (x8_1 + (((rd_T76 l1 x12_1).f1).size : Int))), (wrap64 (x12_1 + 1)), (x191000_1), (x191001_1), (by first | rfl | (simp; done) | (simp [*]; done)), (by first | rfl | (simp; done) | (simp [*]; done)), (by first | rfl | (simp; done) | (simp [*]; done)), (by first | rfl | (simp; done) | (simp [*]; done)), (by first | rfl | (simp; done) | (simp [*]; done)), H', ⟨by have := HK1.out; have := HJ7.out; omega⟩, ⟨by (with_reducible repeat (first | refine blk_drewN ?_ _ | refine blk_drew ?_ | refine blk_alloc ?_ _)); exact BK190.out⟩, ⟨by repeat (first | (with_reducible first | exact HB.out | apply below_alloc | apply pw_below_drewN | apply below_drew1 | refine below_set ?_ GE190.out | refine below_set ?_ GE192.out) | exact HB.out)⟩⟩
        · rw [if_neg c7] at H
          exact absurd H (by simp)
      · rw [if_neg c6] at H
        have c6b0 : decide (x12_1 < (l1.length : Int)) = false := decide_eq_false c6
        clear c6
        by_cases c28 : x191000_1 = (-1)
        · rw [if_pos c28] at H
          have c28b0 : (x191000_1 == (-1)) = true := beq_iff_eq.mpr c28
          have c28b1 : (x191000_1 != (-1)) = false := bne_eq_false_iff_eq.mpr c28
          clear c28
          obtain rfl := Option.some.inj H
          have hcz29_0 : wr.cell? ⟨gb190, 0, none⟩ = some (.int .i8 x191000_1) := (blk_cell BK190.out 0).trans rfl
          have hcz29_1 : wr.cell? ⟨gb190, 1, none⟩ = some (.string x191001_1) := (blk_cell BK190.out 1).trans rfl
          have hfz29_0 := blk_frozen BK190.out 0
          have hfz29_1 := blk_frozen BK190.out 1
          go_wp2
          go_ret
          exact ⟨by first | rfl | (simp [errW_none, errW_some] <;> rfl) | (simp [*, errW_none, errW_some] <;> rfl), by repeat (first | (with_reducible first | exact HB.out | apply below_alloc | apply pw_below_drewN | apply below_drew1 | refine below_set ?_ GE190.out) | exact HB.out)⟩
        · rw [if_neg c28] at H
          have c28b0 : (x191000_1 == (-1)) = false := beq_eq_false_iff_ne.mpr c28
          have c28b1 : (x191000_1 != (-1)) = true := bne_iff_ne.mpr c28
          obtain rfl := Option.some.inj H
          have hcz30_0 : wr.cell? ⟨gb190, 0, none⟩ = some (.int .i8 x191000_1) := (blk_cell BK190.out 0).trans rfl
          have hcz30_1 : wr.cell? ⟨gb190, 1, none⟩ = some (.string x191001_1) := (blk_cell BK190.out 1).trans rfl
          have hfz30_0 := blk_frozen BK190.out 0
          have hfz30_1 := blk_frozen BK190.out 1
          go_wp2
          go_ret
          exact ⟨by first | rfl | (simp [errW_none, errW_some] <;> rfl) | (simp [*, errW_none, errW_some] <;> rfl), by repeat (first | (with_reducible first | exact HB.out | apply below_alloc | apply pw_below_drewN | apply below_drew1 | refine below_set ?_ GE190.out) | exact HB.out)⟩

/-! ### impl_XIndex: function 21 -/
def impl_XIndex.f (k : Nat) (l0 : List (S33)) (a1 : Int) : Option (Int) := (impl_plain.f).bind fun _ => ((impl_diffs.f k l0).bind fun t194 => ((diffmatchpatch_DiffMatchPatch_DiffXIndex.f k t194 a1).bind fun t197 => (some t197)))
theorem impl_XIndex.mono : ∀ a0 a1 k, LeO (impl_XIndex.f k a0 a1) (impl_XIndex.f (k + 1) a0 a1) := by
  intro a0 a1 k
  unfold impl_XIndex.f
  repeat' first
      | (with_reducible exact diffmatchpatch_DiffMatchPatch_DiffXIndex.mono _ _ _)
      | (with_reducible exact impl_diffs.mono _ _)
      | (with_reducible exact LeO.refl _)
      | (with_reducible exact LeO.none _)
      | (with_reducible refine LeO.ite ?_ ?_)
      | (with_reducible refine LeO.bind ?_ (fun _ => ?_))
      | exact diffmatchpatch_DiffMatchPatch_DiffXIndex.mono _ _ _
      | exact impl_diffs.mono _ _
      | exact LeO.none _
      | refine LeO.ite ?_ ?_
      | refine LeO.bind ?_ (fun _ => ?_)
set_option maxHeartbeats 8000000 in
set_option maxRecDepth 100000 in
theorem impl_XIndex.calls (k : Nat) (A0 : Option Addr) (c0 : Nat) (l0 : List (S33)) (a1 : Int) (r : Int) (w : World) (hr0 : Kd.C k33 w A0 l0.length l0) (hc0 : l0.length ≤ c0) (h : impl_XIndex.f k l0 a1 = some r) :
    Calls Tryd.prog 21 #[.slice A0 l0.length c0, .int .i64 a1] w fun e w' => e = .returned (.int .i64 r) ∧ Below w.heap.size w w' := by
  have HR0 := Aside0.mk hr0
  have HC0 := Aside0.mk hc0
  clear hr0 hc0
  have HB := Aside0.mk (Below.refl w.heap.size w)
  have H : ((impl_plain.f).bind fun _ => ((impl_diffs.f k l0).bind fun t194 => ((diffmatchpatch_DiffMatchPatch_DiffXIndex.f k t194 a1).bind fun t197 => (some t197)))) = some r := h
  clear h
  replace H := Option.bind_eq_some_iff.mp H
  obtain ⟨_, A30, H⟩ := H
  replace H : ((impl_diffs.f k l0).bind fun t194 => ((diffmatchpatch_DiffMatchPatch_DiffXIndex.f k t194 a1).bind fun t197 => (some t197))) = some r := H
  have A3 := Aside0.mk A30
  clear A30
  replace H := Option.bind_eq_some_iff.mp H
  obtain ⟨t194, A40, H⟩ := H
  replace H : ((diffmatchpatch_DiffMatchPatch_DiffXIndex.f k t194 a1).bind fun t197 => (some t197)) = some r := H
  have A4 := Aside0.mk A40
  clear A40
  replace H := Option.bind_eq_some_iff.mp H
  obtain ⟨t197, A50, H⟩ := H
  replace H : (some t197) = some r := H
  have A5 := Aside0.mk A50
  clear A50
  obtain rfl := Option.some.inj H
  go_enter Tryd.func21, Tryd.ntmps21
  go_wp2_with (first | ((with_reducible refine gate_callee (f := 35) rfl ?_); refine goesL_ (some 5) rfl rfl Tryd.func35 (by kernel_rfl) rfl #[] rfl (by (try simp only [List.map_toArray, List.map_cons, List.map_nil]); first | done | rfl | (simp only [List.length_drop, List.length_take]; rfl)) ?_; (with_reducible refine (impl_plain.calls   _ A3.out).mono ?_); rintro e w6 ⟨v193, rfl, hb⟩; refine ⟨_, rfl, ?_⟩; have n0_ := Aside0.mk (below_step (by repeat (first | (with_reducible first | exact HB.out | apply below_alloc | apply pw_below_drewN | apply below_drew1) | exact HB.out)) hb); clear HB; have HB := n0_; clear n0_; (try clear hb); (try clear hb2); (try clear hk); (try clear hi)) | ((with_reducible refine gate_callee (f := 40) rfl ?_); refine goesL_ (some 7) rfl rfl Tryd.func40 (by kernel_rfl) rfl #[.slice A0 l0.length c0] rfl (by (try simp only [List.map_toArray, List.map_cons, List.map_nil]); first | done | rfl | (simp only [List.length_drop, List.length_take]; rfl)) ?_; (with_reducible refine (impl_diffs.calls k _ _ l0 t194 _ ?side1 ?side2 A4.out).mono ?_); (case side1 => repeat (first | exact (Kd.C_below HR0.out HB.out) | (with_reducible refine Kd.C_alloc ?_ _) | (with_reducible refine Kd.C_drewN ?_ _) | (with_reducible refine Kd.C_drew ?_))); (case side2 => exact HC0.out); rintro e w7 ⟨v195, rfl, ho0, hb⟩; refine ⟨_, rfl, ?_⟩; have n0_ := Aside0.mk (Kd.R_lower ho0 (below_size (by repeat (first | (with_reducible first | exact HB.out | apply below_alloc | apply pw_below_drewN | apply below_drew1) | exact HB.out)))); have n1_ := Aside0.mk (below_step (by repeat (first | (with_reducible first | exact HB.out | apply below_alloc | apply pw_below_drewN | apply below_drew1) | exact HB.out)) hb); clear HB; have HO196 := n0_; have HB := n1_; clear n0_ n1_; (try clear hb); (try clear hb2); (try clear hk); (try clear hi); (try clear ho0); obtain ⟨Ao8, co8, eo8⟩ := Kd.R_slice HO196.out; subst eo8) | ((with_reducible refine gate_callee (f := 41) rfl ?_); refine goesL_ (some 9) rfl rfl Tryd.func41 (by kernel_rfl) rfl #[v193, .slice Ao8 t194.length co8, .int .i64 a1] rfl (by (try simp only [List.map_toArray, List.map_cons, List.map_nil]); first | done | rfl | (simp only [List.length_drop, List.length_take]; rfl)) ?_; (with_reducible refine (diffmatchpatch_DiffMatchPatch_DiffXIndex.calls k v193 _ _ t194 a1 t197 _ ?side1 ?side2 A5.out).mono ?_); (case side1 => repeat (first | exact (Kd.R_reads' HO196.out).2.2 | (with_reducible refine Kd.C_alloc ?_ _) | (with_reducible refine Kd.C_drewN ?_ _) | (with_reducible refine Kd.C_drew ?_))); (case side2 => exact (Kd.R_reads' HO196.out).2.1); rintro e w9 ⟨rfl, hb⟩; refine ⟨_, rfl, ?_⟩; have n0_ := Aside0.mk (Kd.R_below (by (with_reducible repeat (first | apply Kd.R_alloc | apply Kd.R_drewN | apply Kd.R_drew)); exact HO196.out) hb); have n1_ := Aside0.mk (below_step (by repeat (first | (with_reducible first | exact HB.out | apply below_alloc | apply pw_below_drewN | apply below_drew1) | exact HB.out)) hb); clear HO196; clear HB; have HO196 := n0_; have HB := n1_; clear n0_ n1_; (try clear hb); (try clear hb2); (try clear hk); (try clear hi)))
  go_ret
  exact ⟨by first | rfl | (simp [errW_none, errW_some] <;> rfl) | (simp [*, errW_none, errW_some] <;> rfl), by repeat (first | (with_reducible first | exact HB.out | apply below_alloc | apply pw_below_drewN | apply below_drew1) | exact HB.out)⟩

/-! ### spec_DiffPlace: function 22 -/
mutual
def spec_DiffPlace.l0 : Nat → Int → Int → Int → List (S53) → Int → Int → Option (Int)
  | 0, _, _, _, _, _, _ => none
  | k + 1, x1, x5, x6, x10, x11, x12 => if x12 < x11 then (if 0 ≤ x12 then (if x12 < (x10.length : Int) then (if ((rd_T53 x10 x12).f0) = 1 then (spec_DiffPlace.j1 k x1 x5 x6 (((rd_T53 x10 x12).f1).size : Int) x10 x11 x12 false ((rd_T53 x10 x12).f0) ((rd_T53 x10 x12).f1)) else (spec_DiffPlace.j1 k x1 x5 x6 (((rd_T53 x10 x12).f1).size : Int) x10 x11 x12 (decide (x1 < (wrap64 (x5 + (((rd_T53 x10 x12).f1).size : Int))))) ((rd_T53 x10 x12).f0) ((rd_T53 x10 x12).f1))) else (none)) else (none)) else (some (wrap64 ((wrap64 (x6 + x1)) - x5)))
def spec_DiffPlace.j1 : Nat → Int → Int → Int → Int → List (S53) → Int → Int → Bool → Int → ByteArray → Option (Int)
  | 0, _, _, _, _, _, _, _, _, _, _ => none
  | k + 1, x1, x5, x6, x9, x10, x11, x12, x28, x200000, x200001 => if x28 = true then (if x200000 = 0 then (some (wrap64 ((wrap64 (x6 + x1)) - x5))) else (some x6)) else (if x200000 = 1 then (if x200000 = (-1) then (spec_DiffPlace.l0 k x1 x5 x6 x10 x11 (wrap64 (x12 + 1))) else (spec_DiffPlace.l0 k x1 x5 (wrap64 (x6 + x9)) x10 x11 (wrap64 (x12 + 1)))) else (if x200000 = (-1) then (spec_DiffPlace.l0 k x1 (wrap64 (x5 + x9)) x6 x10 x11 (wrap64 (x12 + 1))) else (spec_DiffPlace.l0 k x1 (wrap64 (x5 + x9)) (wrap64 (x6 + x9)) x10 x11 (wrap64 (x12 + 1)))))
end
def spec_DiffPlace.f (k : Nat) (l0 : List (S53)) (a1 : Int) : Option (Int) := spec_DiffPlace.l0 k a1 0 0 l0 (l0.length : Int) 0
theorem spec_DiffPlace.mono_l : ∀ k, (∀ y0 y1 y2 y3 y4 y5, LeO (spec_DiffPlace.l0 k y0 y1 y2 y3 y4 y5) (spec_DiffPlace.l0 (k + 1) y0 y1 y2 y3 y4 y5)) ∧ (∀ y0 y1 y2 y3 y4 y5 y6 y7 y8 y9, LeO (spec_DiffPlace.j1 k y0 y1 y2 y3 y4 y5 y6 y7 y8 y9) (spec_DiffPlace.j1 (k + 1) y0 y1 y2 y3 y4 y5 y6 y7 y8 y9))
  | 0 => ⟨fun _ _ _ _ _ _ r h => by simp [spec_DiffPlace.l0] at h, fun _ _ _ _ _ _ _ _ _ _ r h => by simp [spec_DiffPlace.j1] at h⟩
  | k + 1 => by
    obtain ⟨ih0, ih1⟩ := spec_DiffPlace.mono_l k
    refine ⟨?_, ?_⟩
    · intro y0 y1 y2 y3 y4 y5
      unfold spec_DiffPlace.l0
      repeat' first
      | (with_reducible exact ih0 _ _ _ _ _ _)
      | (with_reducible exact ih1 _ _ _ _ _ _ _ _ _ _)
      | (with_reducible exact LeO.refl _)
      | (with_reducible exact LeO.none _)
      | (with_reducible refine LeO.ite ?_ ?_)
      | (with_reducible refine LeO.bind ?_ (fun _ => ?_))
      | exact ih0 _ _ _ _ _ _
      | exact ih1 _ _ _ _ _ _ _ _ _ _
      | exact LeO.none _
      | refine LeO.ite ?_ ?_
      | refine LeO.bind ?_ (fun _ => ?_)
    · intro y0 y1 y2 y3 y4 y5 y6 y7 y8 y9
      unfold spec_DiffPlace.j1
      repeat' first
      | (with_reducible exact ih0 _ _ _ _ _ _)
      | (with_reducible exact ih1 _ _ _ _ _ _ _ _ _ _)
      | (with_reducible exact LeO.refl _)
      | (with_reducible exact LeO.none _)
      | (with_reducible refine LeO.ite ?_ ?_)
      | (with_reducible refine LeO.bind ?_ (fun _ => ?_))
      | exact ih0 _ _ _ _ _ _
      | exact ih1 _ _ _ _ _ _ _ _ _ _
      | exact LeO.none _
      | refine LeO.ite ?_ ?_
      | refine LeO.bind ?_ (fun _ => ?_)
theorem spec_DiffPlace.mono : ∀ a0 a1 k, LeO (spec_DiffPlace.f k a0 a1) (spec_DiffPlace.f (k + 1) a0 a1) := by
  intro a0 a1 k
  obtain ⟨ih0, ih1⟩ := spec_DiffPlace.mono_l k
  unfold spec_DiffPlace.f
  repeat' first
      | (with_reducible exact ih0 _ _ _ _ _ _)
      | (with_reducible exact ih1 _ _ _ _ _ _ _ _ _ _)
      | (with_reducible exact LeO.refl _)
      | (with_reducible exact LeO.none _)
      | (with_reducible refine LeO.ite ?_ ?_)
      | (with_reducible refine LeO.bind ?_ (fun _ => ?_))
      | exact ih0 _ _ _ _ _ _
      | exact ih1 _ _ _ _ _ _ _ _ _ _
      | exact LeO.none _
      | refine LeO.ite ?_ ?_
      | refine LeO.bind ?_ (fun _ => ?_)
set_option maxHeartbeats 8000000 in
set_option maxRecDepth 100000 in
theorem spec_DiffPlace.calls (k : Nat) (A0 : Option Addr) (c0 : Nat) (l0 : List (S53)) (a1 : Int) (r : Int) (w : World) (hr0 : Kd.C k53 w A0 l0.length l0) (hc0 : l0.length ≤ c0) (h : spec_DiffPlace.f k l0 a1 = some r) :
    Calls Tryd.prog 22 #[.slice A0 l0.length c0, .int .i64 a1] w fun e w' => e = .returned (.int .i64 r) ∧ Below w.heap.size w w' := by
  have hu53 := Tryd.underlying53
  have HR0 := Aside0.mk hr0
  have HC0 := Aside0.mk hc0
  clear hr0 hc0
  have HB := Aside0.mk (Below.refl w.heap.size w)
  have H : (spec_DiffPlace.l0 k a1 0 0 l0 (l0.length : Int) 0) = some r := h
  clear h
  have H' := Aside0.mk H
  clear H
  go_enter Tryd.func22, Tryd.ntmps22
  go_wp2
  go_loopg [5, 6, 12] k (fun kq v5 v6 v12 w' => ∃ (x5_1 : Int) (x6_1 : Int) (x12_1 : Int), v5 = .int .i64 x5_1 ∧ v6 = .int .i64 x6_1 ∧ v12 = .int .i64 x12_1 ∧ Aside0 (spec_DiffPlace.l0 kq a1 x5_1 x6_1 l0 (l0.length : Int) x12_1 = some r) ∧ Aside0 (kq ≤ k) ∧ Aside0 (Below w.heap.size w w'))
  case atStart => exact ⟨(0), (0), (0), (by first | rfl | (simp; done) | (simp [*]; done)), (by first | rfl | (simp; done) | (simp [*]; done)), (by first | rfl | (simp; done) | (simp [*]; done)), H', ⟨Nat.le_refl _⟩, ⟨by repeat (first | (with_reducible first | exact HB.out | apply below_alloc | apply pw_below_drewN | apply below_drew1) | exact HB.out)⟩⟩
  case round =>
    clear H'
    try clear c2
    try clear p2
    obtain ⟨x5_1, x6_1, x12_1, rfl, rfl, rfl, HA, HK1, HB⟩ := hrel
    cases gk with
    | zero => exact absurd HA.out (by simp [spec_DiffPlace.l0])
    | succ k1 =>
      have H := HA.out
      clear HA
      simp only [spec_DiffPlace.l0] at H
      by_cases c3 : x12_1 < (l0.length : Int)
      · rw [if_pos c3] at H
        have c3b0 : decide (x12_1 < (l0.length : Int)) = true := decide_eq_true c3
        clear c3
        by_cases c4 : 0 ≤ x12_1
        · rw [if_pos c4] at H
          have c4b0 : decide (0 ≤ x12_1) = true := decide_eq_true c4
          clear c4
          by_cases c5 : x12_1 < (l0.length : Int)
          · rw [if_pos c5] at H
            have c5b0 : decide (x12_1 < (l0.length : Int)) = true := decide_eq_true c5
            clear c5
            have HC6 := Aside0.mk H
            clear H
            have p198 : 0 ≤ (x12_1 : Int) := of_decide_eq_true (by first | (with_reducible assumption) | assumption)
            have q198 : x12_1 < (l0.length : Int) := of_decide_eq_true (by first | (with_reducible assumption) | assumption)
            obtain ⟨ad198, e198, hx198_0, hx198_1⟩ := at_T53 HR0.out x12_1 p198 q198
            cases e198
            replace hx198_0 := (HB.out.cell (World.block_lt_of_cell? w _ hx198_0)).trans hx198_0
            replace hx198_1 := (HB.out.cell (World.block_lt_of_cell? w _ hx198_1)).trans hx198_1
            replace p198 := eq_true p198
            replace q198 := eq_true q198
            go_upto_region 6 with (first | ((with_reducible refine gate_dst (N := 8) rfl ?_); refine box_event ?hg (N := 8) ?hd (cs := #[.int .i64 0, .string (⟨#[]⟩ : ByteArray)]) (t := 53) ?hr ?_; (case hd => rfl); (case hg => rfl); (case hr => first | (go_simp; done) | (go_simp; rfl)); intro gb199 hg w7 hbox hb; have n0_ := Aside0.mk (below_step (by repeat (first | (with_reducible first | exact HB.out | apply below_alloc | apply pw_below_drewN | apply below_drew1) | exact HB.out)) hb); have n1_ := Aside0.mk (hbox); have n2_ := Aside0.mk ((by rw [hg]; exact (below_size (by repeat (first | (with_reducible first | exact HB.out | apply below_alloc | apply pw_below_drewN | apply below_drew1) | exact HB.out))) : w.heap.size ≤ gb199)); have n3_ := Aside0.mk ((by rw [hg]; exact (below_size (by repeat (first | (with_reducible first | exact HB.out | apply below_alloc | apply pw_below_drewN | apply below_drew1) | exact HB.out))) : w.heap.size ≤ gb199)); clear HB; have HB := n0_; have BK199 := n1_; have GW199 := n2_; have GE199 := n3_; clear n0_ n1_ n2_ n3_; clear hb hbox hg; have hcz8_0 : w7.cell? ⟨gb199, 0, none⟩ = some (.int .i64 0) := (blk_cell BK199.out 0).trans rfl; have hcz8_1 : w7.cell? ⟨gb199, 1, none⟩ = some (.string (⟨#[]⟩ : ByteArray)) := (blk_cell BK199.out 1).trans rfl; have hfz8_0 := blk_frozen BK199.out 0; have hfz8_1 := blk_frozen BK199.out 1))
            (try simp only [Act.put, List.setIfInBounds_toArray, List.set_cons_zero, List.set_cons_succ])
            go_cut [28] (fun v28 wc => ∃ (kq : Nat) (x28_5 : Bool), v28 = .bool x28_5 ∧ Aside0 (spec_DiffPlace.j1 kq a1 x5_1 x6_1 (((rd_T53 l0 x12_1).f1).size : Int) l0 (l0.length : Int) x12_1 x28_5 ((rd_T53 l0 x12_1).f0) ((rd_T53 l0 x12_1).f1) = some r) ∧ Aside0 (kq ≤ k1) ∧ Aside0 (wc.heap[gb199]? = some (.cells #[.int .i64 ((rd_T53 l0 x12_1).f0), .string ((rd_T53 l0 x12_1).f1)] 53 (0, 0))) ∧ Aside0 (Below w.heap.size w wc))
            case first =>
              have H := HC6.out
              clear HC6
              by_cases c9 : ((rd_T53 l0 x12_1).f0) = 1
              · rw [if_pos c9] at H
                have c9b0 : (((rd_T53 l0 x12_1).f0) == 1) = true := beq_iff_eq.mpr c9
                have c9b1 : (((rd_T53 l0 x12_1).f0) != 1) = false := bne_eq_false_iff_eq.mpr c9
                clear c9
                (first | rw [c9b0] | (simp only [i64_w, i32_w]; rw [c9b0]) | skip)
                have H' := Aside0.mk H
                clear H
                have hcz10_0 : w7.cell? ⟨gb199, 0, none⟩ = some (.int .i64 0) := (blk_cell BK199.out 0).trans rfl
                have hcz10_1 : w7.cell? ⟨gb199, 1, none⟩ = some (.string (⟨#[]⟩ : ByteArray)) := (blk_cell BK199.out 1).trans rfl
                have hfz10_0 := blk_frozen BK199.out 0
                have hfz10_1 := blk_frozen BK199.out 1
                go_wp2
                go_meet
                case rel => exact ⟨_, (false), (by first | rfl | (simp; done) | (simp [*]; done)), H', ⟨by have := HK1.out; first | omega | exact Nat.le_refl _⟩, ⟨by (with_reducible repeat (first | refine blk_drewN ?_ _ | refine blk_drew ?_ | refine blk_alloc ?_ _)); refine blk_put (cs := #[.int .i64 ((rd_T53 l0 x12_1).f0), .string (⟨#[]⟩ : ByteArray)]) ?_ 1 _ rfl; (with_reducible repeat (first | refine blk_drewN ?_ _ | refine blk_drew ?_ | refine blk_alloc ?_ _)); refine blk_put (cs := #[.int .i64 0, .string (⟨#[]⟩ : ByteArray)]) ?_ 0 _ rfl; (with_reducible repeat (first | refine blk_drewN ?_ _ | refine blk_drew ?_ | refine blk_alloc ?_ _)); exact BK199.out⟩, ⟨by repeat (first | (with_reducible first | exact HB.out | apply below_alloc | apply pw_below_drewN | apply below_drew1 | refine below_set ?_ GE199.out) | exact HB.out)⟩⟩
              · rw [if_neg c9] at H
                have c9b0 : (((rd_T53 l0 x12_1).f0) == 1) = false := beq_eq_false_iff_ne.mpr c9
                have c9b1 : (((rd_T53 l0 x12_1).f0) != 1) = true := bne_iff_ne.mpr c9
                (first | rw [c9b0] | (simp only [i64_w, i32_w]; rw [c9b0]) | skip)
                have H' := Aside0.mk H
                clear H
                have hcz11_0 : w7.cell? ⟨gb199, 0, none⟩ = some (.int .i64 0) := (blk_cell BK199.out 0).trans rfl
                have hcz11_1 : w7.cell? ⟨gb199, 1, none⟩ = some (.string (⟨#[]⟩ : ByteArray)) := (blk_cell BK199.out 1).trans rfl
                have hfz11_0 := blk_frozen BK199.out 0
                have hfz11_1 := blk_frozen BK199.out 1
                go_wp2
                go_meet
                case rel => exact ⟨_, (decide (a1 < (wrap64 (x5_1 + (((rd_T53 l0 x12_1).f1).size : Int))))), (by first | rfl | (simp; done) | (simp [*]; done)), H', ⟨by have := HK1.out; first | omega | exact Nat.le_refl _⟩, ⟨by (with_reducible repeat (first | refine blk_drewN ?_ _ | refine blk_drew ?_ | refine blk_alloc ?_ _)); refine blk_put (cs := #[.int .i64 ((rd_T53 l0 x12_1).f0), .string (⟨#[]⟩ : ByteArray)]) ?_ 1 _ rfl; (with_reducible repeat (first | refine blk_drewN ?_ _ | refine blk_drew ?_ | refine blk_alloc ?_ _)); refine blk_put (cs := #[.int .i64 0, .string (⟨#[]⟩ : ByteArray)]) ?_ 0 _ rfl; (with_reducible repeat (first | refine blk_drewN ?_ _ | refine blk_drew ?_ | refine blk_alloc ?_ _)); exact BK199.out⟩, ⟨by repeat (first | (with_reducible first | exact HB.out | apply below_alloc | apply pw_below_drewN | apply below_drew1 | refine below_set ?_ GE199.out) | exact HB.out)⟩⟩
            case rest =>
              clear HC6
              try clear p1
              try clear q1
              try clear hx1
              try clear c2
              try clear p2
              try clear c3
              try clear c3b0
              try clear c4
              try clear c4b0
              try clear c5
              try clear c5b0
              try clear p6
              try clear c9
              try clear c9b0
              try clear c9b1
              try clear hcz10_0
              try clear hcz10_1
              try clear hcz11_0
              try clear hcz11_1
              try clear hcz8_0
              try clear hcz8_1
              try clear hfz10_0
              try clear hfz10_1
              try clear hfz11_0
              try clear hfz11_1
              try clear hfz8_0
              try clear hfz8_1
              try clear hx198_0
              try clear hx198_1
              try clear p198
              try clear p2
              try clear q198
              obtain ⟨kq, x28_5, rfl, HA, HJ5, BK199, HB⟩ := hcut
              cases kq with
              | zero => exact absurd HA.out (by simp [spec_DiffPlace.j1])
              | succ kj5 =>
                have H := HA.out
                clear HA
                simp only [spec_DiffPlace.j1] at H
                by_cases c12 : x28_5 = true
                · subst c12
                  have H1 : (if ((rd_T53 l0 x12_1).f0) = 0 then (some (wrap64 ((wrap64 (x6_1 + a1)) - x5_1))) else (some x6_1)) = some r := by rw [if_pos rfl] at H; exact H
                  clear H
                  have H := H1
                  clear H1
                  by_cases c13 : ((rd_T53 l0 x12_1).f0) = 0
                  · rw [if_pos c13] at H
                    have c13b0 : (((rd_T53 l0 x12_1).f0) == 0) = true := beq_iff_eq.mpr c13
                    have c13b1 : (((rd_T53 l0 x12_1).f0) != 0) = false := bne_eq_false_iff_eq.mpr c13
                    clear c13
                    obtain rfl := Option.some.inj H
                    have hcz14_0 : wc.cell? ⟨gb199, 0, none⟩ = some (.int .i64 ((rd_T53 l0 x12_1).f0)) := (blk_cell BK199.out 0).trans rfl
                    have hcz14_1 : wc.cell? ⟨gb199, 1, none⟩ = some (.string ((rd_T53 l0 x12_1).f1)) := (blk_cell BK199.out 1).trans rfl
                    have hfz14_0 := blk_frozen BK199.out 0
                    have hfz14_1 := blk_frozen BK199.out 1
                    go_wp2
                    go_ret
                    exact ⟨by first | rfl | (simp [errW_none, errW_some] <;> rfl) | (simp [*, errW_none, errW_some] <;> rfl), by repeat (first | (with_reducible first | exact HB.out | apply below_alloc | apply pw_below_drewN | apply below_drew1 | refine below_set ?_ GE199.out) | exact HB.out)⟩
                  · rw [if_neg c13] at H
                    have c13b0 : (((rd_T53 l0 x12_1).f0) == 0) = false := beq_eq_false_iff_ne.mpr c13
                    have c13b1 : (((rd_T53 l0 x12_1).f0) != 0) = true := bne_iff_ne.mpr c13
                    obtain rfl := Option.some.inj H
                    have hcz15_0 : wc.cell? ⟨gb199, 0, none⟩ = some (.int .i64 ((rd_T53 l0 x12_1).f0)) := (blk_cell BK199.out 0).trans rfl
                    have hcz15_1 : wc.cell? ⟨gb199, 1, none⟩ = some (.string ((rd_T53 l0 x12_1).f1)) := (blk_cell BK199.out 1).trans rfl
                    have hfz15_0 := blk_frozen BK199.out 0
                    have hfz15_1 := blk_frozen BK199.out 1
                    go_wp2
                    go_ret
                    exact ⟨by first | rfl | (simp [errW_none, errW_some] <;> rfl) | (simp [*, errW_none, errW_some] <;> rfl), by repeat (first | (with_reducible first | exact HB.out | apply below_alloc | apply pw_below_drewN | apply below_drew1 | refine below_set ?_ GE199.out) | exact HB.out)⟩
                · replace c12 := Bool.eq_false_iff.mpr c12
                  subst c12
                  have H1 : (if ((rd_T53 l0 x12_1).f0) = 1 then (if ((rd_T53 l0 x12_1).f0) = (-1) then (spec_DiffPlace.l0 kj5 a1 x5_1 x6_1 l0 (l0.length : Int) (wrap64 (x12_1 + 1))) else (spec_DiffPlace.l0 kj5 a1 x5_1 (wrap64 (x6_1 + (((rd_T53 l0 x12_1).f1).size : Int))) l0 (l0.length : Int) (wrap64 (x12_1 + 1)))) else (if ((rd_T53 l0 x12_1).f0) = (-1) then (spec_DiffPlace.l0 kj5 a1 (wrap64 (x5_1 + (((rd_T53 l0 x12_1).f1).size : Int))) x6_1 l0 (l0.length : Int) (wrap64 (x12_1 + 1))) else (spec_DiffPlace.l0 kj5 a1 (wrap64 (x5_1 + (((rd_T53 l0 x12_1).f1).size : Int))) (wrap64 (x6_1 + (((rd_T53 l0 x12_1).f1).size : Int))) l0 (l0.length : Int) (wrap64 (x12_1 + 1))))) = some r := by rw [if_neg (show ¬ (false = true) by decide)] at H; exact H
                  clear H
                  have H := H1
                  clear H1
                  by_cases c16 : ((rd_T53 l0 x12_1).f0) = 1
                  · rw [if_pos c16] at H
                    have c16b0 : (((rd_T53 l0 x12_1).f0) == 1) = true := beq_iff_eq.mpr c16
                    have c16b1 : (((rd_T53 l0 x12_1).f0) != 1) = false := bne_eq_false_iff_eq.mpr c16
                    clear c16
                    by_cases c17 : ((rd_T53 l0 x12_1).f0) = (-1)
                    · rw [if_pos c17] at H
                      have c17b0 : (((rd_T53 l0 x12_1).f0) == (-1)) = true := beq_iff_eq.mpr c17
                      have c17b1 : (((rd_T53 l0 x12_1).f0) != (-1)) = false := bne_eq_false_iff_eq.mpr c17
                      clear c17
                      have H' := Aside0.mk H
                      clear H
                      have hcz18_0 : wc.cell? ⟨gb199, 0, none⟩ = some (.int .i64 ((rd_T53 l0 x12_1).f0)) := (blk_cell BK199.out 0).trans rfl
                      have hcz18_1 : wc.cell? ⟨gb199, 1, none⟩ = some (.string ((rd_T53 l0 x12_1).f1)) := (blk_cell BK199.out 1).trans rfl
                      have hfz18_0 := blk_frozen BK199.out 0
                      have hfz18_1 := blk_frozen BK199.out 1
                      go_wp2
                      go_roundg kj5
                      case measure => have := HK1.out; have := HJ5.out; omega
                      case rel => exact ⟨(x5_1), (x6_1), (wrap64 (x12_1 + 1)), (by first | rfl | (simp; done) | (simp [*]; done)), (by first | rfl | (simp; done) | (simp [*]; done)), (by first | rfl | (simp; done) | (simp [*]; done)), H', ⟨by have := HK1.out; have := HJ5.out; omega⟩, ⟨by repeat (first | (with_reducible first | exact HB.out | apply below_alloc | apply pw_below_drewN | apply below_drew1 | refine below_set ?_ GE199.out) | exact HB.out)⟩⟩
                    · rw [if_neg c17] at H
                      have c17b0 : (((rd_T53 l0 x12_1).f0) == (-1)) = false := beq_eq_false_iff_ne.mpr c17
                      have c17b1 : (((rd_T53 l0 x12_1).f0) != (-1)) = true := bne_iff_ne.mpr c17
                      have H' := Aside0.mk H
                      clear H
                      have hcz19_0 : wc.cell? ⟨gb199, 0, none⟩ = some (.int .i64 ((rd_T53 l0 x12_1).f0)) := (blk_cell BK199.out 0).trans rfl
                      have hcz19_1 : wc.cell? ⟨gb199, 1, none⟩ = some (.string ((rd_T53 l0 x12_1).f1)) := (blk_cell BK199.out 1).trans rfl
                      have hfz19_0 := blk_frozen BK199.out 0
                      have hfz19_1 := blk_frozen BK199.out 1
                      go_wp2
                      go_roundg kj5
                      case measure => have := HK1.out; have := HJ5.out; omega
                      case rel => exact ⟨(x5_1), (wrap64 (x6_1 + (((rd_T53 l0 x12_1).f1).size : Int))), (wrap64 (x12_1 + 1)), (by first | rfl | (simp; done) | (simp [*]; done)), (by first | rfl | (simp; done) | (simp [*]; done)), (by first | rfl | (simp; done) | (simp [*]; done)), H', ⟨by have := HK1.out; have := HJ5.out; omega⟩, ⟨by repeat (first | (with_reducible first | exact HB.out | apply below_alloc | apply pw_below_drewN | apply below_drew1 | refine below_set ?_ GE199.out) | exact HB.out)⟩⟩
                  · rw [if_neg c16] at H
                    have c16b0 : (((rd_T53 l0 x12_1).f0) == 1) = false := beq_eq_false_iff_ne.mpr c16
                    have c16b1 : (((rd_T53 l0 x12_1).f0) != 1) = true := bne_iff_ne.mpr c16
                    by_cases c20 : ((rd_T53 l0 x12_1).f0) = (-1)
                    · rw [if_pos c20] at H
                      have c20b0 : (((rd_T53 l0 x12_1).f0) == (-1)) = true := beq_iff_eq.mpr c20
                      have c20b1 : (((rd_T53 l0 x12_1).f0) != (-1)) = false := bne_eq_false_iff_eq.mpr c20
                      clear c20
                      have H' := Aside0.mk H
                      clear H
                      have hcz21_0 : wc.cell? ⟨gb199, 0, none⟩ = some (.int .i64 ((rd_T53 l0 x12_1).f0)) := (blk_cell BK199.out 0).trans rfl
                      have hcz21_1 : wc.cell? ⟨gb199, 1, none⟩ = some (.string ((rd_T53 l0 x12_1).f1)) := (blk_cell BK199.out 1).trans rfl
                      have hfz21_0 := blk_frozen BK199.out 0
                      have hfz21_1 := blk_frozen BK199.out 1
                      go_wp2
                      go_roundg kj5
                      case measure => have := HK1.out; have := HJ5.out; omega
                      case rel => exact ⟨(wrap64 (x5_1 + (((rd_T53 l0 x12_1).f1).size : Int))), (x6_1), (wrap64 (x12_1 + 1)), (by first | rfl | (simp; done) | (simp [*]; done)), (by first | rfl | (simp; done) | (simp [*]; done)), (by first | rfl | (simp; done) | (simp [*]; done)), H', ⟨by have := HK1.out; have := HJ5.out; omega⟩, ⟨by repeat (first | (with_reducible first | exact HB.out | apply below_alloc | apply pw_below_drewN | apply below_drew1 | refine below_set ?_ GE199.out) | exact HB.out)⟩⟩
                    · rw [if_neg c20] at H
                      have c20b0 : (((rd_T53 l0 x12_1).f0) == (-1)) = false := beq_eq_false_iff_ne.mpr c20
                      have c20b1 : (((rd_T53 l0 x12_1).f0) != (-1)) = true := bne_iff_ne.mpr c20
                      have H' := Aside0.mk H
                      clear H
                      have hcz22_0 : wc.cell? ⟨gb199, 0, none⟩ = some (.int .i64 ((rd_T53 l0 x12_1).f0)) := (blk_cell BK199.out 0).trans rfl
                      have hcz22_1 : wc.cell? ⟨gb199, 1, none⟩ = some (.string ((rd_T53 l0 x12_1).f1)) := (blk_cell BK199.out 1).trans rfl
                      have hfz22_0 := blk_frozen BK199.out 0
                      have hfz22_1 := blk_frozen BK199.out 1
                      go_wp2
                      go_roundg kj5
                      case measure => have := HK1.out; have := HJ5.out; omega
                      case rel => exact ⟨(wrap64 (x5_1 + (((rd_T53 l0 x12_1).f1).size : Int))), (wrap64 (x6_1 + (((rd_T53 l0 x12_1).f1).size : Int))), (wrap64 (x12_1 + 1)), (by first | rfl | (simp; done) | (simp [*]; done)), (by first | rfl | (simp; done) | (simp [*]; done)), (by first | rfl | (simp; done) | (simp [*]; done)), H', ⟨by have := HK1.out; have := HJ5.out; omega⟩, ⟨by repeat (first | (with_reducible first | exact HB.out | apply below_alloc | apply pw_below_drewN | apply below_drew1 | refine below_set ?_ GE199.out) | exact HB.out)⟩⟩
          · rw [if_neg c5] at H
            exact absurd H (by simp)
        · rw [if_neg c4] at H
          exact absurd H (by simp)
      · rw [if_neg c3] at H
        have c3b0 : decide (x12_1 < (l0.length : Int)) = false := decide_eq_false c3
        clear c3
        obtain rfl := Option.some.inj H
        go_wp2
        go_ret
        exact ⟨by first | rfl | (simp [errW_none, errW_some] <;> rfl) | (simp [*, errW_none, errW_some] <;> rfl), by repeat (first | (with_reducible first | exact HB.out | apply below_alloc | apply pw_below_drewN | apply below_drew1) | exact HB.out)⟩

/-! ### laws_FnXIndex: function 5 -/
def laws_FnXIndex.j0 : Nat → List (S53) → Int → Bool → Option (Bool)
  | 0, _, _, _ => none
  | k + 1, x0, x1, x18 => if x18 = true then (some true) else ((laws_diffTo.f k x0).bind fun t202 => ((impl_XIndex.f k t202 x1).bind fun t205 => ((spec_DiffPlace.f k x0 x1).bind fun t206 => (if t205 = t206 then ((impl_XIndex.f k (([(⟨1, (⟨#[97, 98]⟩ : ByteArray)⟩ : S33), (⟨0, (⟨#[99]⟩ : ByteArray)⟩ : S33)] : List (S33))) 0).bind fun t210 => (some (t210 == 2))) else (some false)))))
def laws_FnXIndex.f (k : Nat) (l0 : List (S53)) (a1 : Int) : Option (Bool) := (laws_zzFits1.f k l0).bind fun t200 => (if t200 = true then ((spec_IsDiffs.f k l0).bind fun t201 => (if t201 = true then (if a1 < 0 then (laws_FnXIndex.j0 k l0 a1 true) else (laws_FnXIndex.j0 k l0 a1 (decide (a1 > 5000)))) else (laws_FnXIndex.j0 k l0 a1 true))) else (some true))
theorem laws_FnXIndex.mono_l : ∀ k, (∀ y0 y1 y2, LeO (laws_FnXIndex.j0 k y0 y1 y2) (laws_FnXIndex.j0 (k + 1) y0 y1 y2))
  | 0 => fun _ _ _ r h => by simp [laws_FnXIndex.j0] at h
  | k + 1 => by
    have ih0 := laws_FnXIndex.mono_l k
    · intro y0 y1 y2
      unfold laws_FnXIndex.j0
      repeat' first
      | (with_reducible exact ih0 _ _ _)
      | (with_reducible exact impl_XIndex.mono _ _ _)
      | (with_reducible exact laws_diffTo.mono _ _)
      | (with_reducible exact laws_zzFits1.mono _ _)
      | (with_reducible exact spec_DiffPlace.mono _ _ _)
      | (with_reducible exact spec_IsDiffs.mono _ _)
      | (with_reducible exact LeO.refl _)
      | (with_reducible exact LeO.none _)
      | (with_reducible refine LeO.ite ?_ ?_)
      | (with_reducible refine LeO.bind ?_ (fun _ => ?_))
      | exact ih0 _ _ _
      | exact impl_XIndex.mono _ _ _
      | exact laws_diffTo.mono _ _
      | exact laws_zzFits1.mono _ _
      | exact spec_DiffPlace.mono _ _ _
      | exact spec_IsDiffs.mono _ _
      | exact LeO.none _
      | refine LeO.ite ?_ ?_
      | refine LeO.bind ?_ (fun _ => ?_)
theorem laws_FnXIndex.mono : ∀ a0 a1 k, LeO (laws_FnXIndex.f k a0 a1) (laws_FnXIndex.f (k + 1) a0 a1) := by
  intro a0 a1 k
  have ih0 := laws_FnXIndex.mono_l k
  unfold laws_FnXIndex.f
  repeat' first
      | (with_reducible exact ih0 _ _ _)
      | (with_reducible exact impl_XIndex.mono _ _ _)
      | (with_reducible exact laws_diffTo.mono _ _)
      | (with_reducible exact laws_zzFits1.mono _ _)
      | (with_reducible exact spec_DiffPlace.mono _ _ _)
      | (with_reducible exact spec_IsDiffs.mono _ _)
      | (with_reducible exact LeO.refl _)
      | (with_reducible exact LeO.none _)
      | (with_reducible refine LeO.ite ?_ ?_)
      | (with_reducible refine LeO.bind ?_ (fun _ => ?_))
      | exact ih0 _ _ _
      | exact impl_XIndex.mono _ _ _
      | exact laws_diffTo.mono _ _
      | exact laws_zzFits1.mono _ _
      | exact spec_DiffPlace.mono _ _ _
      | exact spec_IsDiffs.mono _ _
      | exact LeO.none _
      | refine LeO.ite ?_ ?_
      | refine LeO.bind ?_ (fun _ => ?_)
set_option maxHeartbeats 8000000 in
set_option maxRecDepth 100000 in
theorem laws_FnXIndex.calls (k : Nat) (A0 : Option Addr) (c0 : Nat) (l0 : List (S53)) (a1 : Int) (r : Bool) (w : World) (hG_ : Glob w) (hr0 : Kd.C k53 w A0 l0.length l0) (hc0 : l0.length ≤ c0) (h : laws_FnXIndex.f k l0 a1 = some r) :
    Calls Tryd.prog 5 #[.slice A0 l0.length c0, .int .i64 a1] w fun e w' => e = .returned (.bool r) ∧ Below w.heap.size w w' := by
  have hu33 := Tryd.underlying33
  have HR0 := Aside0.mk hr0
  have HC0 := Aside0.mk hc0
  clear hr0 hc0
  have HB := Aside0.mk (Below.refl w.heap.size w)
  have H : ((laws_zzFits1.f k l0).bind fun t200 => (if t200 = true then ((spec_IsDiffs.f k l0).bind fun t201 => (if t201 = true then (if a1 < 0 then (laws_FnXIndex.j0 k l0 a1 true) else (laws_FnXIndex.j0 k l0 a1 (decide (a1 > 5000)))) else (laws_FnXIndex.j0 k l0 a1 true))) else (some true))) = some r := h
  clear h
  replace H := Option.bind_eq_some_iff.mp H
  obtain ⟨t200, A30, H⟩ := H
  replace H : (if t200 = true then ((spec_IsDiffs.f k l0).bind fun t201 => (if t201 = true then (if a1 < 0 then (laws_FnXIndex.j0 k l0 a1 true) else (laws_FnXIndex.j0 k l0 a1 (decide (a1 > 5000)))) else (laws_FnXIndex.j0 k l0 a1 true))) else (some true)) = some r := H
  have A3 := Aside0.mk A30
  clear A30
  by_cases c4 : t200 = true
  · subst c4
    have H1 : ((spec_IsDiffs.f k l0).bind fun t201 => (if t201 = true then (if a1 < 0 then (laws_FnXIndex.j0 k l0 a1 true) else (laws_FnXIndex.j0 k l0 a1 (decide (a1 > 5000)))) else (laws_FnXIndex.j0 k l0 a1 true))) = some r := by rw [if_pos rfl] at H; exact H
    clear H
    have H := H1
    clear H1
    have HC5 := Aside0.mk H
    clear H
    go_enter Tryd.func5, Tryd.ntmps5
    go_upto_region 3 with (first | ((with_reducible refine gate_callee (f := 16) rfl ?_); refine goesL_ (some 6) rfl rfl Tryd.func16 (by kernel_rfl) rfl #[.slice A0 l0.length c0] rfl (by (try simp only [List.map_toArray, List.map_cons, List.map_nil]); first | done | rfl | (simp only [List.length_drop, List.length_take]; rfl)) ?_; (with_reducible refine (laws_zzFits1.calls k _ _ l0 true _ ?side1 ?side2 A3.out).mono ?_); (case side1 => repeat (first | exact HR0.out | (with_reducible refine Kd.C_alloc ?_ _) | (with_reducible refine Kd.C_drewN ?_ _) | (with_reducible refine Kd.C_drew ?_))); (case side2 => exact HC0.out); rintro e w6 ⟨rfl, hb⟩; refine ⟨_, rfl, ?_⟩; have n0_ := Aside0.mk (below_step (by repeat (first | (with_reducible first | exact HB.out | apply below_alloc | apply pw_below_drewN | apply below_drew1) | exact HB.out)) hb); clear HB; have HB := n0_; clear n0_; (try clear hb); (try clear hb2); (try clear hk); (try clear hi)))
    (try simp only [Act.put, List.setIfInBounds_toArray, List.set_cons_zero, List.set_cons_succ])
    go_cut [18] (fun v18 wc => ∃ (kq : Nat) (x18_4 : Bool), v18 = .bool x18_4 ∧ Aside0 (laws_FnXIndex.j0 kq l0 a1 x18_4 = some r) ∧ Aside0 (kq ≤ k) ∧ Aside0 (Below w.heap.size w wc))
    case first =>
      have H := HC5.out
      clear HC5
      replace H := Option.bind_eq_some_iff.mp H
      obtain ⟨t201, A70, H⟩ := H
      replace H : (if t201 = true then (if a1 < 0 then (laws_FnXIndex.j0 k l0 a1 true) else (laws_FnXIndex.j0 k l0 a1 (decide (a1 > 5000)))) else (laws_FnXIndex.j0 k l0 a1 true)) = some r := H
      have A7 := Aside0.mk A70
      clear A70
      by_cases c8 : t201 = true
      · subst c8
        have H1 : (if a1 < 0 then (laws_FnXIndex.j0 k l0 a1 true) else (laws_FnXIndex.j0 k l0 a1 (decide (a1 > 5000)))) = some r := by rw [if_pos rfl] at H; exact H
        clear H
        have H := H1
        clear H1
        by_cases c9 : a1 < 0
        · rw [if_pos c9] at H
          have c9b0 : decide (a1 < 0) = true := decide_eq_true c9
          clear c9
          (first | rw [c9b0] | (simp only [i64_w, i32_w]; rw [c9b0]) | skip)
          have H' := Aside0.mk H
          clear H
          go_wp2_with (first | ((with_reducible refine gate_callee (f := 17) rfl ?_); refine goesL_ (some 9) rfl rfl Tryd.func17 (by kernel_rfl) rfl #[.slice A0 l0.length c0] rfl (by (try simp only [List.map_toArray, List.map_cons, List.map_nil]); first | done | rfl | (simp only [List.length_drop, List.length_take]; rfl)) ?_; (with_reducible refine (spec_IsDiffs.calls k _ _ l0 true _ ?side1 ?side2 ?side3 A7.out).mono ?_); (case side1 => exact Glob.below hG_ (by repeat (first | (with_reducible first | exact HB.out | apply below_alloc | apply pw_below_drewN | apply below_drew1) | exact HB.out))); (case side2 => repeat (first | exact (Kd.C_below HR0.out HB.out) | (with_reducible refine Kd.C_alloc ?_ _) | (with_reducible refine Kd.C_drewN ?_ _) | (with_reducible refine Kd.C_drew ?_))); (case side3 => exact HC0.out); rintro e w10 ⟨rfl, hb⟩; refine ⟨_, rfl, ?_⟩; have n0_ := Aside0.mk (below_step (by repeat (first | (with_reducible first | exact HB.out | apply below_alloc | apply pw_below_drewN | apply below_drew1) | exact HB.out)) hb); clear HB; have HB := n0_; clear n0_; (try clear hb); (try clear hb2); (try clear hk); (try clear hi)))
          go_meet
          case rel => exact ⟨_, (true), (by first | rfl | (simp; done) | (simp [*]; done)), H', ⟨by first | omega | exact Nat.le_refl _⟩, ⟨by repeat (first | (with_reducible first | exact HB.out | apply below_alloc | apply pw_below_drewN | apply below_drew1) | exact HB.out)⟩⟩
        · rw [if_neg c9] at H
          have c9b0 : decide (a1 < 0) = false := decide_eq_false c9
          clear c9
          (first | rw [c9b0] | (simp only [i64_w, i32_w]; rw [c9b0]) | skip)
          have H' := Aside0.mk H
          clear H
          go_wp2_with (first | ((with_reducible refine gate_callee (f := 17) rfl ?_); refine goesL_ (some 9) rfl rfl Tryd.func17 (by kernel_rfl) rfl #[.slice A0 l0.length c0] rfl (by (try simp only [List.map_toArray, List.map_cons, List.map_nil]); first | done | rfl | (simp only [List.length_drop, List.length_take]; rfl)) ?_; (with_reducible refine (spec_IsDiffs.calls k _ _ l0 true _ ?side1 ?side2 ?side3 A7.out).mono ?_); (case side1 => exact Glob.below hG_ (by repeat (first | (with_reducible first | exact HB.out | apply below_alloc | apply pw_below_drewN | apply below_drew1) | exact HB.out))); (case side2 => repeat (first | exact (Kd.C_below HR0.out HB.out) | (with_reducible refine Kd.C_alloc ?_ _) | (with_reducible refine Kd.C_drewN ?_ _) | (with_reducible refine Kd.C_drew ?_))); (case side3 => exact HC0.out); rintro e w11 ⟨rfl, hb⟩; refine ⟨_, rfl, ?_⟩; have n0_ := Aside0.mk (below_step (by repeat (first | (with_reducible first | exact HB.out | apply below_alloc | apply pw_below_drewN | apply below_drew1) | exact HB.out)) hb); clear HB; have HB := n0_; clear n0_; (try clear hb); (try clear hb2); (try clear hk); (try clear hi)))
          go_meet
          case rel => exact ⟨_, (decide (a1 > 5000)), (by first | rfl | (simp; done) | (simp [*]; done)), H', ⟨by first | omega | exact Nat.le_refl _⟩, ⟨by repeat (first | (with_reducible first | exact HB.out | apply below_alloc | apply pw_below_drewN | apply below_drew1) | exact HB.out)⟩⟩
      · replace c8 := Bool.eq_false_iff.mpr c8
        subst c8
        have H1 : (laws_FnXIndex.j0 k l0 a1 true) = some r := by rw [if_neg (show ¬ (false = true) by decide)] at H; exact H
        clear H
        have H := H1
        clear H1
        have H' := Aside0.mk H
        clear H
        go_wp2_with (first | ((with_reducible refine gate_callee (f := 17) rfl ?_); refine goesL_ (some 9) rfl rfl Tryd.func17 (by kernel_rfl) rfl #[.slice A0 l0.length c0] rfl (by (try simp only [List.map_toArray, List.map_cons, List.map_nil]); first | done | rfl | (simp only [List.length_drop, List.length_take]; rfl)) ?_; (with_reducible refine (spec_IsDiffs.calls k _ _ l0 false _ ?side1 ?side2 ?side3 A7.out).mono ?_); (case side1 => exact Glob.below hG_ (by repeat (first | (with_reducible first | exact HB.out | apply below_alloc | apply pw_below_drewN | apply below_drew1) | exact HB.out))); (case side2 => repeat (first | exact (Kd.C_below HR0.out HB.out) | (with_reducible refine Kd.C_alloc ?_ _) | (with_reducible refine Kd.C_drewN ?_ _) | (with_reducible refine Kd.C_drew ?_))); (case side3 => exact HC0.out); rintro e w12 ⟨rfl, hb⟩; refine ⟨_, rfl, ?_⟩; have n0_ := Aside0.mk (below_step (by repeat (first | (with_reducible first | exact HB.out | apply below_alloc | apply pw_below_drewN | apply below_drew1) | exact HB.out)) hb); clear HB; have HB := n0_; clear n0_; (try clear hb); (try clear hb2); (try clear hk); (try clear hi)))
        go_meet
        case rel => exact ⟨_, (true), (by first | rfl | (simp; done) | (simp [*]; done)), H', ⟨by first | omega | exact Nat.le_refl _⟩, ⟨by repeat (first | (with_reducible first | exact HB.out | apply below_alloc | apply pw_below_drewN | apply below_drew1) | exact HB.out)⟩⟩
    case rest =>
      clear HC5
      try clear c1
      try clear p2
      try clear c4
      try clear c5
      try clear c8
      try clear c9
      try clear c9b0
      obtain ⟨kq, x18_4, rfl, HA, HJ4, HB⟩ := hcut
      cases kq with
      | zero => exact absurd HA.out (by simp [laws_FnXIndex.j0])
      | succ kj4 =>
        have H := HA.out
        clear HA
        simp only [laws_FnXIndex.j0] at H
        by_cases c13 : x18_4 = true
        · subst c13
          have H1 : (some true) = some r := by rw [if_pos rfl] at H; exact H
          clear H
          have H := H1
          clear H1
          obtain rfl := Option.some.inj H
          go_wp2
          go_ret
          exact ⟨by first | rfl | (simp [errW_none, errW_some] <;> rfl) | (simp [*, errW_none, errW_some] <;> rfl), by repeat (first | (with_reducible first | exact HB.out | apply below_alloc | apply pw_below_drewN | apply below_drew1) | exact HB.out)⟩
        · replace c13 := Bool.eq_false_iff.mpr c13
          subst c13
          have H1 : ((laws_diffTo.f kj4 l0).bind fun t202 => ((impl_XIndex.f kj4 t202 a1).bind fun t205 => ((spec_DiffPlace.f kj4 l0 a1).bind fun t206 => (if t205 = t206 then ((impl_XIndex.f kj4 (([(⟨1, (⟨#[97, 98]⟩ : ByteArray)⟩ : S33), (⟨0, (⟨#[99]⟩ : ByteArray)⟩ : S33)] : List (S33))) 0).bind fun t210 => (some (t210 == 2))) else (some false))))) = some r := by rw [if_neg (show ¬ (false = true) by decide)] at H; exact H
          clear H
          have H := H1
          clear H1
          replace H := Option.bind_eq_some_iff.mp H
          obtain ⟨t202, A140, H⟩ := H
          replace H : ((impl_XIndex.f kj4 t202 a1).bind fun t205 => ((spec_DiffPlace.f kj4 l0 a1).bind fun t206 => (if t205 = t206 then ((impl_XIndex.f kj4 (([(⟨1, (⟨#[97, 98]⟩ : ByteArray)⟩ : S33), (⟨0, (⟨#[99]⟩ : ByteArray)⟩ : S33)] : List (S33))) 0).bind fun t210 => (some (t210 == 2))) else (some false)))) = some r := H
          have A14 := Aside0.mk A140
          clear A140
          replace H := Option.bind_eq_some_iff.mp H
          obtain ⟨t205, A150, H⟩ := H
          replace H : ((spec_DiffPlace.f kj4 l0 a1).bind fun t206 => (if t205 = t206 then ((impl_XIndex.f kj4 (([(⟨1, (⟨#[97, 98]⟩ : ByteArray)⟩ : S33), (⟨0, (⟨#[99]⟩ : ByteArray)⟩ : S33)] : List (S33))) 0).bind fun t210 => (some (t210 == 2))) else (some false))) = some r := H
          have A15 := Aside0.mk A150
          clear A150
          replace H := Option.bind_eq_some_iff.mp H
          obtain ⟨t206, A160, H⟩ := H
          replace H : (if t205 = t206 then ((impl_XIndex.f kj4 (([(⟨1, (⟨#[97, 98]⟩ : ByteArray)⟩ : S33), (⟨0, (⟨#[99]⟩ : ByteArray)⟩ : S33)] : List (S33))) 0).bind fun t210 => (some (t210 == 2))) else (some false)) = some r := H
          have A16 := Aside0.mk A160
          clear A160
          by_cases c17 : t205 = t206
          · rw [if_pos c17] at H
            have c17b0 : (t205 == t206) = true := beq_iff_eq.mpr c17
            have c17b1 : (t205 != t206) = false := bne_eq_false_iff_eq.mpr c17
            clear c17
            obtain ⟨y207, hy207⟩ : ∃ y_ : List (S33), y_ = (([(⟨1, (⟨#[97, 98]⟩ : ByteArray)⟩ : S33), (⟨0, (⟨#[99]⟩ : ByteArray)⟩ : S33)] : List (S33))) := ⟨_, rfl⟩
            replace H : ((impl_XIndex.f kj4 y207 0).bind fun t210 => (some (t210 == 2))) = some r := by first | (rw [hy207]; with_reducible exact H) | (have H2_ := (Option.bind_some _ _).symm.trans H; rw [hy207]; with_reducible exact H2_) | (have H2_ := (Option.bind_some _ _).symm.trans H; with_reducible exact H2_) | with_reducible exact H | (rw [hy207]; exact H) | exact H
            have Ny207 := Aside0.mk hy207
            clear hy207
            replace H := Option.bind_eq_some_iff.mp H
            obtain ⟨t210, A180, H⟩ := H
            replace H : (some (t210 == 2)) = some r := H
            have A18 := Aside0.mk A180
            clear A180
            obtain rfl := Option.some.inj H
            go_wp2_with (first | ((with_reducible refine gate_callee (f := 19) rfl ?_); refine goesL_ (some 20) rfl rfl Tryd.func19 (by kernel_rfl) rfl #[.slice A0 l0.length c0] rfl (by (try simp only [List.map_toArray, List.map_cons, List.map_nil]); first | done | rfl | (simp only [List.length_drop, List.length_take]; rfl)) ?_; (with_reducible refine (laws_diffTo.calls kj4 _ _ l0 t202 _ ?side1 ?side2 A14.out).mono ?_); (case side1 => repeat (first | exact (Kd.C_below HR0.out HB.out) | (with_reducible refine Kd.C_alloc ?_ _) | (with_reducible refine Kd.C_drewN ?_ _) | (with_reducible refine Kd.C_drew ?_))); (case side2 => exact HC0.out); rintro e w19 ⟨v203, rfl, ho0, hb⟩; refine ⟨_, rfl, ?_⟩; have n0_ := Aside0.mk (Kd.R_lower ho0 (below_size (by repeat (first | (with_reducible first | exact HB.out | apply below_alloc | apply pw_below_drewN | apply below_drew1) | exact HB.out)))); have n1_ := Aside0.mk (below_step (by repeat (first | (with_reducible first | exact HB.out | apply below_alloc | apply pw_below_drewN | apply below_drew1) | exact HB.out)) hb); clear HB; have HO204 := n0_; have HB := n1_; clear n0_ n1_; (try clear hb); (try clear hb2); (try clear hk); (try clear hi); (try clear ho0); obtain ⟨Ao20, co20, eo20⟩ := Kd.R_slice HO204.out; subst eo20) | ((with_reducible refine gate_callee (f := 21) rfl ?_); refine goesL_ (some 22) rfl rfl Tryd.func21 (by kernel_rfl) rfl #[.slice Ao20 t202.length co20, .int .i64 a1] rfl (by (try simp only [List.map_toArray, List.map_cons, List.map_nil]); first | done | rfl | (simp only [List.length_drop, List.length_take]; rfl)) ?_; (with_reducible refine (impl_XIndex.calls kj4 _ _ t202 a1 t205 _ ?side1 ?side2 A15.out).mono ?_); (case side1 => repeat (first | exact (Kd.R_reads' HO204.out).2.2 | (with_reducible refine Kd.C_alloc ?_ _) | (with_reducible refine Kd.C_drewN ?_ _) | (with_reducible refine Kd.C_drew ?_))); (case side2 => exact (Kd.R_reads' HO204.out).2.1); rintro e w21 ⟨rfl, hb⟩; refine ⟨_, rfl, ?_⟩; have n0_ := Aside0.mk (Kd.R_below (by (with_reducible repeat (first | apply Kd.R_alloc | apply Kd.R_drewN | apply Kd.R_drew)); exact HO204.out) hb); have n1_ := Aside0.mk (below_step (by repeat (first | (with_reducible first | exact HB.out | apply below_alloc | apply pw_below_drewN | apply below_drew1) | exact HB.out)) hb); clear HO204; clear HB; have HO204 := n0_; have HB := n1_; clear n0_ n1_; (try clear hb); (try clear hb2); (try clear hk); (try clear hi)) | ((with_reducible refine gate_callee (f := 22) rfl ?_); refine goesL_ (some 25) rfl rfl Tryd.func22 (by kernel_rfl) rfl #[.slice A0 l0.length c0, .int .i64 a1] rfl (by (try simp only [List.map_toArray, List.map_cons, List.map_nil]); first | done | rfl | (simp only [List.length_drop, List.length_take]; rfl)) ?_; (with_reducible refine (spec_DiffPlace.calls kj4 _ _ l0 a1 t206 _ ?side1 ?side2 A16.out).mono ?_); (case side1 => repeat (first | exact (Kd.C_below HR0.out HB.out) | (with_reducible refine Kd.C_alloc ?_ _) | (with_reducible refine Kd.C_drewN ?_ _) | (with_reducible refine Kd.C_drew ?_))); (case side2 => exact HC0.out); rintro e w22 ⟨rfl, hb⟩; refine ⟨_, rfl, ?_⟩; have n0_ := Aside0.mk (Kd.R_below (by (with_reducible repeat (first | apply Kd.R_alloc | apply Kd.R_drewN | apply Kd.R_drew)); exact HO204.out) hb); have n1_ := Aside0.mk (below_step (by repeat (first | (with_reducible first | exact HB.out | apply below_alloc | apply pw_below_drewN | apply below_drew1) | exact HB.out)) hb); clear HO204; clear HB; have HO204 := n0_; have HB := n1_; clear n0_ n1_; (try clear hb); (try clear hb2); (try clear hk); (try clear hi)) | ((with_reducible refine gate_dst (N := 30) rfl ?_); (try (refine gate_guard (by rfl) ?_; dsimp only)); refine Kd.R_lit k33 _ 33 ?hg (N := 30) ?hd (xs := ([(⟨1, (⟨#[97, 98]⟩ : ByteArray)⟩ : S33), (⟨0, (⟨#[99]⟩ : ByteArray)⟩ : S33)] : List (S33))) (inner := [.int .i64 1, .string (⟨#[97, 98]⟩ : ByteArray), .int .i64 0, .string (⟨#[99]⟩ : ByteArray)]) (ok := fun _ => True) (okp := fun _ => True) ?hr ?hp (fun _ hk => hk) trivial (Below.refl _ _) (Nat.le_refl _) (by simp) ?_; (case hd => rfl); (case hg => rfl); (case hr => first | (go_simp; done) | (go_simp; rfl)); (case hp => exact (Reps.c2 (show Kd.M k33 _ _ _ (⟨1, (⟨#[97, 98]⟩ : ByteArray)⟩ : S33) [.int .i64 1, .string (⟨#[97, 98]⟩ : ByteArray)] from (k33_mkM _ _ _ (⟨1, (⟨#[97, 98]⟩ : ByteArray)⟩ : S33) )) (Reps.c2 (show Kd.M k33 _ _ _ (⟨0, (⟨#[99]⟩ : ByteArray)⟩ : S33) [.int .i64 0, .string (⟨#[99]⟩ : ByteArray)] from (k33_mkM _ _ _ (⟨0, (⟨#[99]⟩ : ByteArray)⟩ : S33) )) (Reps.none _ _)))); intro v208 w23 ho24 hb hg_ hnew_; clear hg_ hnew_; (first | rw [← Ny207.out] at ho24 | (simp only [Int.reduceToNat] at ho24; rw [← Ny207.out] at ho24)); have n0_ := Aside0.mk (Kd.R_elder' (by (with_reducible repeat (first | apply Kd.R_alloc | apply Kd.R_drewN | apply Kd.R_drew)); exact HO204.out) (Kd.R_base ho24) hb); have n1_ := Aside0.mk (Kd.R_lower (Kd.R_new' ho24 (Kd.R_lt (by (with_reducible repeat (first | apply Kd.R_alloc | apply Kd.R_drewN | apply Kd.R_drew)); exact HO204.out))) (below_size (by repeat (first | (with_reducible first | exact HB.out | apply below_alloc | apply pw_below_drewN | apply below_drew1) | exact HB.out)))); have n2_ := Aside0.mk (below_step (by repeat (first | (with_reducible first | exact HB.out | apply below_alloc | apply pw_below_drewN | apply below_drew1) | exact HB.out)) hb); clear HO204; clear HB; have HO204 := n0_; have HO209 := n1_; have HB := n2_; clear n0_ n1_ n2_; clear hb ho24; obtain ⟨Ao25, co25, eo25⟩ := Kd.R_slice HO209.out; subst eo25) | (go_at_call 21; (with_reducible refine (impl_XIndex.calls kj4 _ _ y207 0 t210 _ ?side1 ?side2 A18.out).mono ?_); (case side1 => repeat (first | exact (Kd.R_reads' HO209.out).2.2 | (with_reducible refine Kd.C_alloc ?_ _) | (with_reducible refine Kd.C_drewN ?_ _) | (with_reducible refine Kd.C_drew ?_))); (case side2 => exact (Kd.R_reads' HO209.out).2.1); rintro e w26 ⟨rfl, hb⟩; have n0_ := Aside0.mk (Kd.R_below (by (with_reducible repeat (first | apply Kd.R_alloc | apply Kd.R_drewN | apply Kd.R_drew)); exact HO204.out) hb); have n1_ := Aside0.mk (Kd.R_below (by (with_reducible repeat (first | apply Kd.R_alloc | apply Kd.R_drewN | apply Kd.R_drew)); exact HO209.out) hb); have n2_ := Aside0.mk (below_step (by repeat (first | (with_reducible first | exact HB.out | apply below_alloc | apply pw_below_drewN | apply below_drew1) | exact HB.out)) hb); clear HO204; clear HO209; clear HB; have HO204 := n0_; have HO209 := n1_; have HB := n2_; clear n0_ n1_ n2_; (try clear hb); (try clear hb2); (try clear hk); (try clear hi)))
            go_ret
            exact ⟨by first | rfl | (simp [errW_none, errW_some] <;> rfl) | (simp [*, errW_none, errW_some] <;> rfl), by repeat (first | (with_reducible first | exact HB.out | apply below_alloc | apply pw_below_drewN | apply below_drew1) | exact HB.out)⟩
          · rw [if_neg c17] at H
            have c17b0 : (t205 == t206) = false := beq_eq_false_iff_ne.mpr c17
            have c17b1 : (t205 != t206) = true := bne_iff_ne.mpr c17
            obtain rfl := Option.some.inj H
            go_wp2_with (first | ((with_reducible refine gate_callee (f := 19) rfl ?_); refine goesL_ (some 20) rfl rfl Tryd.func19 (by kernel_rfl) rfl #[.slice A0 l0.length c0] rfl (by (try simp only [List.map_toArray, List.map_cons, List.map_nil]); first | done | rfl | (simp only [List.length_drop, List.length_take]; rfl)) ?_; (with_reducible refine (laws_diffTo.calls kj4 _ _ l0 t202 _ ?side1 ?side2 A14.out).mono ?_); (case side1 => repeat (first | exact (Kd.C_below HR0.out HB.out) | (with_reducible refine Kd.C_alloc ?_ _) | (with_reducible refine Kd.C_drewN ?_ _) | (with_reducible refine Kd.C_drew ?_))); (case side2 => exact HC0.out); rintro e w27 ⟨v203, rfl, ho0, hb⟩; refine ⟨_, rfl, ?_⟩; have n0_ := Aside0.mk (Kd.R_lower ho0 (below_size (by repeat (first | (with_reducible first | exact HB.out | apply below_alloc | apply pw_below_drewN | apply below_drew1) | exact HB.out)))); have n1_ := Aside0.mk (below_step (by repeat (first | (with_reducible first | exact HB.out | apply below_alloc | apply pw_below_drewN | apply below_drew1) | exact HB.out)) hb); clear HB; have HO204 := n0_; have HB := n1_; clear n0_ n1_; (try clear hb); (try clear hb2); (try clear hk); (try clear hi); (try clear ho0); obtain ⟨Ao28, co28, eo28⟩ := Kd.R_slice HO204.out; subst eo28) | ((with_reducible refine gate_callee (f := 21) rfl ?_); refine goesL_ (some 22) rfl rfl Tryd.func21 (by kernel_rfl) rfl #[.slice Ao28 t202.length co28, .int .i64 a1] rfl (by (try simp only [List.map_toArray, List.map_cons, List.map_nil]); first | done | rfl | (simp only [List.length_drop, List.length_take]; rfl)) ?_; (with_reducible refine (impl_XIndex.calls kj4 _ _ t202 a1 t205 _ ?side1 ?side2 A15.out).mono ?_); (case side1 => repeat (first | exact (Kd.R_reads' HO204.out).2.2 | (with_reducible refine Kd.C_alloc ?_ _) | (with_reducible refine Kd.C_drewN ?_ _) | (with_reducible refine Kd.C_drew ?_))); (case side2 => exact (Kd.R_reads' HO204.out).2.1); rintro e w29 ⟨rfl, hb⟩; refine ⟨_, rfl, ?_⟩; have n0_ := Aside0.mk (Kd.R_below (by (with_reducible repeat (first | apply Kd.R_alloc | apply Kd.R_drewN | apply Kd.R_drew)); exact HO204.out) hb); have n1_ := Aside0.mk (below_step (by repeat (first | (with_reducible first | exact HB.out | apply below_alloc | apply pw_below_drewN | apply below_drew1) | exact HB.out)) hb); clear HO204; clear HB; have HO204 := n0_; have HB := n1_; clear n0_ n1_; (try clear hb); (try clear hb2); (try clear hk); (try clear hi)) | ((with_reducible refine gate_callee (f := 22) rfl ?_); refine goesL_ (some 25) rfl rfl Tryd.func22 (by kernel_rfl) rfl #[.slice A0 l0.length c0, .int .i64 a1] rfl (by (try simp only [List.map_toArray, List.map_cons, List.map_nil]); first | done | rfl | (simp only [List.length_drop, List.length_take]; rfl)) ?_; (with_reducible refine (spec_DiffPlace.calls kj4 _ _ l0 a1 t206 _ ?side1 ?side2 A16.out).mono ?_); (case side1 => repeat (first | exact (Kd.C_below HR0.out HB.out) | (with_reducible refine Kd.C_alloc ?_ _) | (with_reducible refine Kd.C_drewN ?_ _) | (with_reducible refine Kd.C_drew ?_))); (case side2 => exact HC0.out); rintro e w30 ⟨rfl, hb⟩; refine ⟨_, rfl, ?_⟩; have n0_ := Aside0.mk (Kd.R_below (by (with_reducible repeat (first | apply Kd.R_alloc | apply Kd.R_drewN | apply Kd.R_drew)); exact HO204.out) hb); have n1_ := Aside0.mk (below_step (by repeat (first | (with_reducible first | exact HB.out | apply below_alloc | apply pw_below_drewN | apply below_drew1) | exact HB.out)) hb); clear HO204; clear HB; have HO204 := n0_; have HB := n1_; clear n0_ n1_; (try clear hb); (try clear hb2); (try clear hk); (try clear hi)))
            go_ret
            exact ⟨by first | rfl | (simp [errW_none, errW_some] <;> rfl) | (simp [*, errW_none, errW_some] <;> rfl), by repeat (first | (with_reducible first | exact HB.out | apply below_alloc | apply pw_below_drewN | apply below_drew1) | exact HB.out)⟩
  · replace c4 := Bool.eq_false_iff.mpr c4
    subst c4
    have H1 : (some true) = some r := by rw [if_neg (show ¬ (false = true) by decide)] at H; exact H
    clear H
    have H := H1
    clear H1
    obtain rfl := Option.some.inj H
    go_enter Tryd.func5, Tryd.ntmps5
    go_wp2_with (first | ((with_reducible refine gate_callee (f := 16) rfl ?_); refine goesL_ (some 6) rfl rfl Tryd.func16 (by kernel_rfl) rfl #[.slice A0 l0.length c0] rfl (by (try simp only [List.map_toArray, List.map_cons, List.map_nil]); first | done | rfl | (simp only [List.length_drop, List.length_take]; rfl)) ?_; (with_reducible refine (laws_zzFits1.calls k _ _ l0 false _ ?side1 ?side2 A3.out).mono ?_); (case side1 => repeat (first | exact HR0.out | (with_reducible refine Kd.C_alloc ?_ _) | (with_reducible refine Kd.C_drewN ?_ _) | (with_reducible refine Kd.C_drew ?_))); (case side2 => exact HC0.out); rintro e w31 ⟨rfl, hb⟩; refine ⟨_, rfl, ?_⟩; have n0_ := Aside0.mk (below_step (by repeat (first | (with_reducible first | exact HB.out | apply below_alloc | apply pw_below_drewN | apply below_drew1) | exact HB.out)) hb); clear HB; have HB := n0_; clear n0_; (try clear hb); (try clear hb2); (try clear hk); (try clear hi)))
    go_ret
    exact ⟨by first | rfl | (simp [errW_none, errW_some] <;> rfl) | (simp [*, errW_none, errW_some] <;> rfl), by repeat (first | (with_reducible first | exact HB.out | apply below_alloc | apply pw_below_drewN | apply below_drew1) | exact HB.out)⟩

end Go.Proofs.YtmdgnglgabnhnaaDoor.P
