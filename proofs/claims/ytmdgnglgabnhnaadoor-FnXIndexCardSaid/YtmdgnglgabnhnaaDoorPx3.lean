-- Written by a program of this session (wip/tools): the printer's text for functions of the seat YtmdgnglgabnhnaaDoor. Not trusted: Lean checks it.
import Derived.Test.YtmdgnglgabnhnaaDoorPx0
import Derived.Test.YtmdgnglgabnhnaaDoorPx2
import Derived.Test.YtmdgnglgabnhnaaDoorXPlain
import Derived.Test.YtmdgnglgabnhnaaDoorXUtf
namespace Go.Proofs.YtmdgnglgabnhnaaDoor.P
open Go.RowKit Go.Proofs.YtmdgnglgabnhnaaDoorW.PrintWords Go.Proofs.YtmdgnglgabnhnaaDoorW.PrintLast Go.Proofs.YtmdgnglgabnhnaaDoorW.PrintMore
attribute [local go_sem] max2_int min2_int max_two min_two max_three min_three max_four min_four   -- for this text's walks alone
open Go.Proofs.YtmdgnglgabnhnaaDoorX
set_option linter.unusedVariables false
set_option linter.unusedSimpArgs false

/-! ### diffmatchpatch_DiffMatchPatch_DiffLevenshtein: function 39 -/
def diffmatchpatch_DiffMatchPatch_DiffLevenshtein.l0 : Nat → Int → Int → Int → List (S76) → Int → Int → Option (Int)
  | 0, _, _, _, _, _, _ => none
  | k + 1, x5, x6, x7, x10, x11, x12 => if x12 < x11 then (if 0 ≤ x12 then (if x12 < (x10.length : Int) then (if ((rd_T76 x10 x12).f0) = 1 then ((utf8_RuneCountInString.f ((rd_T76 x10 x12).f1)).bind fun t158 => (diffmatchpatch_DiffMatchPatch_DiffLevenshtein.l0 k x5 (wrap64 (x6 + t158)) x7 x10 x11 (wrap64 (x12 + 1)))) else (if ((rd_T76 x10 x12).f0) = (-1) then ((utf8_RuneCountInString.f ((rd_T76 x10 x12).f1)).bind fun t159 => (diffmatchpatch_DiffMatchPatch_DiffLevenshtein.l0 k x5 x6 (wrap64 (x7 + t159)) x10 x11 (wrap64 (x12 + 1)))) else (if ((rd_T76 x10 x12).f0) = 0 then ((diffmatchpatch_max.f x6 x7).bind fun t160 => (diffmatchpatch_DiffMatchPatch_DiffLevenshtein.l0 k (wrap64 (x5 + t160)) 0 0 x10 x11 (wrap64 (x12 + 1)))) else (diffmatchpatch_DiffMatchPatch_DiffLevenshtein.l0 k x5 x6 x7 x10 x11 (wrap64 (x12 + 1)))))) else (none)) else (none)) else ((diffmatchpatch_max.f x6 x7).bind fun t155 => (some (wrap64 (x5 + t155))))
def diffmatchpatch_DiffMatchPatch_DiffLevenshtein.f (k : Nat)  (l1 : List (S76)) : Option (Int) := diffmatchpatch_DiffMatchPatch_DiffLevenshtein.l0 k 0 0 0 l1 (l1.length : Int) 0
theorem diffmatchpatch_DiffMatchPatch_DiffLevenshtein.mono_l : ∀ k, (∀ y0 y1 y2 y3 y4 y5, LeO (diffmatchpatch_DiffMatchPatch_DiffLevenshtein.l0 k y0 y1 y2 y3 y4 y5) (diffmatchpatch_DiffMatchPatch_DiffLevenshtein.l0 (k + 1) y0 y1 y2 y3 y4 y5))
  | 0 => fun _ _ _ _ _ _ r h => by simp [diffmatchpatch_DiffMatchPatch_DiffLevenshtein.l0] at h
  | k + 1 => by
    have ih0 := diffmatchpatch_DiffMatchPatch_DiffLevenshtein.mono_l k
    · intro y0 y1 y2 y3 y4 y5
      unfold diffmatchpatch_DiffMatchPatch_DiffLevenshtein.l0
      repeat' first
      | (with_reducible exact ih0 _ _ _ _ _ _)
      | (with_reducible exact LeO.refl _)
      | (with_reducible exact LeO.none _)
      | (with_reducible refine LeO.ite ?_ ?_)
      | (with_reducible refine LeO.bind ?_ (fun _ => ?_))
      | exact ih0 _ _ _ _ _ _
      | exact LeO.none _
      | refine LeO.ite ?_ ?_
      | refine LeO.bind ?_ (fun _ => ?_)
theorem diffmatchpatch_DiffMatchPatch_DiffLevenshtein.mono : ∀ a0 k, LeO (diffmatchpatch_DiffMatchPatch_DiffLevenshtein.f k a0) (diffmatchpatch_DiffMatchPatch_DiffLevenshtein.f (k + 1) a0) := by
  intro a0 k
  have ih0 := diffmatchpatch_DiffMatchPatch_DiffLevenshtein.mono_l k
  unfold diffmatchpatch_DiffMatchPatch_DiffLevenshtein.f
  repeat' first
      | (with_reducible exact ih0 _ _ _ _ _ _)
      | (with_reducible exact LeO.refl _)
      | (with_reducible exact LeO.none _)
      | (with_reducible refine LeO.ite ?_ ?_)
      | (with_reducible refine LeO.bind ?_ (fun _ => ?_))
      | exact ih0 _ _ _ _ _ _
      | exact LeO.none _
      | refine LeO.ite ?_ ?_
      | refine LeO.bind ?_ (fun _ => ?_)
set_option maxHeartbeats 8000000 in
set_option maxRecDepth 100000 in
theorem diffmatchpatch_DiffMatchPatch_DiffLevenshtein.calls (k : Nat) (p0_ : Value) (A1 : Option Addr) (c1 : Nat) (l1 : List (S76)) (r : Int) (w : World) (hr1 : Kd.C k76 w A1 l1.length l1) (hc1 : l1.length ≤ c1) (h : diffmatchpatch_DiffMatchPatch_DiffLevenshtein.f k l1 = some r) :
    Calls Tryd.prog 39 #[p0_, .slice A1 l1.length c1] w fun e w' => e = .returned (.int .i64 r) ∧ Below w.heap.size w w' := by
  have hu76 := Tryd.underlying76
  have HR1 := Aside0.mk hr1
  have HC1 := Aside0.mk hc1
  clear hr1 hc1
  have HB := Aside0.mk (Below.refl w.heap.size w)
  have H : (diffmatchpatch_DiffMatchPatch_DiffLevenshtein.l0 k 0 0 0 l1 (l1.length : Int) 0) = some r := h
  clear h
  have H' := Aside0.mk H
  clear H
  go_enter Tryd.func39, Tryd.ntmps39
  go_wp2
  go_loopg [5, 6, 7, 12] k (fun kq v5 v6 v7 v12 w' => ∃ (x5_1 : Int) (x6_1 : Int) (x7_1 : Int) (x12_1 : Int), v5 = .int .i64 x5_1 ∧ v6 = .int .i64 x6_1 ∧ v7 = .int .i64 x7_1 ∧ v12 = .int .i64 x12_1 ∧ Aside0 (diffmatchpatch_DiffMatchPatch_DiffLevenshtein.l0 kq x5_1 x6_1 x7_1 l1 (l1.length : Int) x12_1 = some r) ∧ Aside0 (kq ≤ k) ∧ Aside0 (Below w.heap.size w w'))
  case atStart => exact ⟨(0), (0), (0), (0), (by first | rfl | (simp; done) | (simp [*]; done)), (by first | rfl | (simp; done) | (simp [*]; done)), (by first | rfl | (simp; done) | (simp [*]; done)), (by first | rfl | (simp; done) | (simp [*]; done)), H', ⟨Nat.le_refl _⟩, ⟨by repeat (first | (with_reducible first | exact HB.out | apply below_alloc | apply pw_below_drewN | apply below_drew1) | exact HB.out)⟩⟩
  case round =>
    clear H'
    try clear c1
    try clear p2
    obtain ⟨x5_1, x6_1, x7_1, x12_1, rfl, rfl, rfl, rfl, HA, HK1, HB⟩ := hrel
    cases gk with
    | zero => exact absurd HA.out (by simp [diffmatchpatch_DiffMatchPatch_DiffLevenshtein.l0])
    | succ k1 =>
      have H := HA.out
      clear HA
      simp only [diffmatchpatch_DiffMatchPatch_DiffLevenshtein.l0] at H
      by_cases c3 : x12_1 < (l1.length : Int)
      · rw [if_pos c3] at H
        have c3b0 : decide (x12_1 < (l1.length : Int)) = true := decide_eq_true c3
        clear c3
        by_cases c4 : 0 ≤ x12_1
        · rw [if_pos c4] at H
          have c4b0 : decide (0 ≤ x12_1) = true := decide_eq_true c4
          clear c4
          by_cases c5 : x12_1 < (l1.length : Int)
          · rw [if_pos c5] at H
            have c5b0 : decide (x12_1 < (l1.length : Int)) = true := decide_eq_true c5
            clear c5
            by_cases c6 : ((rd_T76 l1 x12_1).f0) = 1
            · rw [if_pos c6] at H
              have c6b0 : (((rd_T76 l1 x12_1).f0) == 1) = true := beq_iff_eq.mpr c6
              have c6b1 : (((rd_T76 l1 x12_1).f0) != 1) = false := bne_eq_false_iff_eq.mpr c6
              clear c6
              replace H := Option.bind_eq_some_iff.mp H
              obtain ⟨t158, A70, H⟩ := H
              replace H : (diffmatchpatch_DiffMatchPatch_DiffLevenshtein.l0 k1 x5_1 (wrap64 (x6_1 + t158)) x7_1 l1 (l1.length : Int) (wrap64 (x12_1 + 1))) = some r := H
              have A7 := Aside0.mk A70
              clear A70
              have H' := Aside0.mk H
              clear H
              have p156 : 0 ≤ (x12_1 : Int) := of_decide_eq_true (by first | (with_reducible assumption) | assumption)
              have q156 : x12_1 < (l1.length : Int) := of_decide_eq_true (by first | (with_reducible assumption) | assumption)
              obtain ⟨ad156, e156, hx156_0, hx156_1⟩ := at_T76 HR1.out x12_1 p156 q156
              cases e156
              replace hx156_0 := (HB.out.cell (World.block_lt_of_cell? w _ hx156_0)).trans hx156_0
              replace hx156_1 := (HB.out.cell (World.block_lt_of_cell? w _ hx156_1)).trans hx156_1
              replace p156 := eq_true p156
              replace q156 := eq_true q156
              go_wp2_with (first | ((with_reducible refine gate_dst (N := 9) rfl ?_); refine box_event ?hg (N := 9) ?hd (cs := #[.int .i8 0, .string (⟨#[]⟩ : ByteArray)]) (t := 76) ?hr ?_; (case hd => rfl); (case hg => rfl); (case hr => first | (go_simp; done) | (go_simp; rfl)); intro gb157 hg w8 hbox hb; have n0_ := Aside0.mk (below_step (by repeat (first | (with_reducible first | exact HB.out | apply below_alloc | apply pw_below_drewN | apply below_drew1) | exact HB.out)) hb); have n1_ := Aside0.mk (hbox); have n2_ := Aside0.mk ((by rw [hg]; exact (below_size (by repeat (first | (with_reducible first | exact HB.out | apply below_alloc | apply pw_below_drewN | apply below_drew1) | exact HB.out))) : w.heap.size ≤ gb157)); have n3_ := Aside0.mk ((by rw [hg]; exact (below_size (by repeat (first | (with_reducible first | exact HB.out | apply below_alloc | apply pw_below_drewN | apply below_drew1) | exact HB.out))) : w.heap.size ≤ gb157)); clear HB; have HB := n0_; have BK157 := n1_; have GW157 := n2_; have GE157 := n3_; clear n0_ n1_ n2_ n3_; clear hb hbox hg; have hcz9_0 : w8.cell? ⟨gb157, 0, none⟩ = some (.int .i8 0) := (blk_cell BK157.out 0).trans rfl; have hcz9_1 : w8.cell? ⟨gb157, 1, none⟩ = some (.string (⟨#[]⟩ : ByteArray)) := (blk_cell BK157.out 1).trans rfl; have hfz9_0 := blk_frozen BK157.out 0; have hfz9_1 := blk_frozen BK157.out 1) | ((with_reducible refine gate_callee (f := 30) rfl ?_); refine goesL_ (some 23) rfl rfl Tryd.func30 (by kernel_rfl) rfl #[.string ((rd_T76 l1 x12_1).f1)] rfl (by (try simp only [List.map_toArray, List.map_cons, List.map_nil]); first | done | rfl | (simp only [List.length_drop, List.length_take]; rfl)) ?_; (with_reducible refine (utf8_RuneCountInString.calls ((rd_T76 l1 x12_1).f1) t158 _ A7.out).mono ?_); rintro e w10 ⟨rfl, hb⟩; refine ⟨_, rfl, ?_⟩; have n0_ := Aside0.mk (blk_below (g := gb157) (o := .cells #[.int .i8 ((rd_T76 l1 x12_1).f0), .string ((rd_T76 l1 x12_1).f1)] 76 (0, 0)) (by (with_reducible repeat (first | refine blk_drewN ?_ _ | refine blk_drew ?_ | refine blk_alloc ?_ _)); refine blk_put (cs := #[.int .i8 ((rd_T76 l1 x12_1).f0), .string (⟨#[]⟩ : ByteArray)]) ?_ 1 _ rfl; (with_reducible repeat (first | refine blk_drewN ?_ _ | refine blk_drew ?_ | refine blk_alloc ?_ _)); refine blk_put (cs := #[.int .i8 0, .string (⟨#[]⟩ : ByteArray)]) ?_ 0 _ rfl; (with_reducible repeat (first | refine blk_drewN ?_ _ | refine blk_drew ?_ | refine blk_alloc ?_ _)); exact BK157.out) hb); have n1_ := Aside0.mk (below_step (by repeat (first | (with_reducible first | exact HB.out | apply below_alloc | apply pw_below_drewN | apply below_drew1 | refine below_set ?_ GE157.out) | exact HB.out)) hb); clear BK157; clear HB; have BK157 := n0_; have HB := n1_; clear n0_ n1_; (try clear hb); (try clear hb2); (try clear hk); (try clear hi)))
              go_roundg k1
              case measure => have := HK1.out; omega
              case rel => exact ⟨(x5_1), (wrap64 (x6_1 + t158)), (x7_1), (wrap64 (x12_1 + 1)), (by first | rfl | (simp; done) | (simp [*]; done)), (by first | rfl | (simp; done) | (simp [*]; done)), (by first | rfl | (simp; done) | (simp [*]; done)), (by first | rfl | (simp; done) | (simp [*]; done)), H', ⟨by have := HK1.out; omega⟩, ⟨by repeat (first | (with_reducible first | exact HB.out | apply below_alloc | apply pw_below_drewN | apply below_drew1 | refine below_set ?_ GE157.out) | exact HB.out)⟩⟩
            · rw [if_neg c6] at H
              have c6b0 : (((rd_T76 l1 x12_1).f0) == 1) = false := beq_eq_false_iff_ne.mpr c6
              have c6b1 : (((rd_T76 l1 x12_1).f0) != 1) = true := bne_iff_ne.mpr c6
              by_cases c11 : ((rd_T76 l1 x12_1).f0) = (-1)
              · rw [if_pos c11] at H
                have c11b0 : (((rd_T76 l1 x12_1).f0) == (-1)) = true := beq_iff_eq.mpr c11
                have c11b1 : (((rd_T76 l1 x12_1).f0) != (-1)) = false := bne_eq_false_iff_eq.mpr c11
                clear c11
                replace H := Option.bind_eq_some_iff.mp H
                obtain ⟨t159, A120, H⟩ := H
                replace H : (diffmatchpatch_DiffMatchPatch_DiffLevenshtein.l0 k1 x5_1 x6_1 (wrap64 (x7_1 + t159)) l1 (l1.length : Int) (wrap64 (x12_1 + 1))) = some r := H
                have A12 := Aside0.mk A120
                clear A120
                have H' := Aside0.mk H
                clear H
                have p156 : 0 ≤ (x12_1 : Int) := of_decide_eq_true (by first | (with_reducible assumption) | assumption)
                have q156 : x12_1 < (l1.length : Int) := of_decide_eq_true (by first | (with_reducible assumption) | assumption)
                obtain ⟨ad156, e156, hx156_0, hx156_1⟩ := at_T76 HR1.out x12_1 p156 q156
                cases e156
                replace hx156_0 := (HB.out.cell (World.block_lt_of_cell? w _ hx156_0)).trans hx156_0
                replace hx156_1 := (HB.out.cell (World.block_lt_of_cell? w _ hx156_1)).trans hx156_1
                replace p156 := eq_true p156
                replace q156 := eq_true q156
                go_wp2_with (first | ((with_reducible refine gate_dst (N := 9) rfl ?_); refine box_event ?hg (N := 9) ?hd (cs := #[.int .i8 0, .string (⟨#[]⟩ : ByteArray)]) (t := 76) ?hr ?_; (case hd => rfl); (case hg => rfl); (case hr => first | (go_simp; done) | (go_simp; rfl)); intro gb157 hg w13 hbox hb; have n0_ := Aside0.mk (below_step (by repeat (first | (with_reducible first | exact HB.out | apply below_alloc | apply pw_below_drewN | apply below_drew1) | exact HB.out)) hb); have n1_ := Aside0.mk (hbox); have n2_ := Aside0.mk ((by rw [hg]; exact (below_size (by repeat (first | (with_reducible first | exact HB.out | apply below_alloc | apply pw_below_drewN | apply below_drew1) | exact HB.out))) : w.heap.size ≤ gb157)); have n3_ := Aside0.mk ((by rw [hg]; exact (below_size (by repeat (first | (with_reducible first | exact HB.out | apply below_alloc | apply pw_below_drewN | apply below_drew1) | exact HB.out))) : w.heap.size ≤ gb157)); clear HB; have HB := n0_; have BK157 := n1_; have GW157 := n2_; have GE157 := n3_; clear n0_ n1_ n2_ n3_; clear hb hbox hg; have hcz14_0 : w13.cell? ⟨gb157, 0, none⟩ = some (.int .i8 0) := (blk_cell BK157.out 0).trans rfl; have hcz14_1 : w13.cell? ⟨gb157, 1, none⟩ = some (.string (⟨#[]⟩ : ByteArray)) := (blk_cell BK157.out 1).trans rfl; have hfz14_0 := blk_frozen BK157.out 0; have hfz14_1 := blk_frozen BK157.out 1) | ((with_reducible refine gate_callee (f := 30) rfl ?_); refine goesL_ (some 30) rfl rfl Tryd.func30 (by kernel_rfl) rfl #[.string ((rd_T76 l1 x12_1).f1)] rfl (by (try simp only [List.map_toArray, List.map_cons, List.map_nil]); first | done | rfl | (simp only [List.length_drop, List.length_take]; rfl)) ?_; (with_reducible refine (utf8_RuneCountInString.calls ((rd_T76 l1 x12_1).f1) t159 _ A12.out).mono ?_); rintro e w15 ⟨rfl, hb⟩; refine ⟨_, rfl, ?_⟩; have n0_ := Aside0.mk (blk_below (g := gb157) (o := .cells #[.int .i8 ((rd_T76 l1 x12_1).f0), .string ((rd_T76 l1 x12_1).f1)] 76 (0, 0)) (by (with_reducible repeat (first | refine blk_drewN ?_ _ | refine blk_drew ?_ | refine blk_alloc ?_ _)); refine blk_put (cs := #[.int .i8 ((rd_T76 l1 x12_1).f0), .string (⟨#[]⟩ : ByteArray)]) ?_ 1 _ rfl; (with_reducible repeat (first | refine blk_drewN ?_ _ | refine blk_drew ?_ | refine blk_alloc ?_ _)); refine blk_put (cs := #[.int .i8 0, .string (⟨#[]⟩ : ByteArray)]) ?_ 0 _ rfl; (with_reducible repeat (first | refine blk_drewN ?_ _ | refine blk_drew ?_ | refine blk_alloc ?_ _)); exact BK157.out) hb); have n1_ := Aside0.mk (below_step (by repeat (first | (with_reducible first | exact HB.out | apply below_alloc | apply pw_below_drewN | apply below_drew1 | refine below_set ?_ GE157.out) | exact HB.out)) hb); clear BK157; clear HB; have BK157 := n0_; have HB := n1_; clear n0_ n1_; (try clear hb); (try clear hb2); (try clear hk); (try clear hi)))
                go_roundg k1
                case measure => have := HK1.out; omega
                case rel => exact ⟨(x5_1), (x6_1), (wrap64 (x7_1 + t159)), (wrap64 (x12_1 + 1)), (by first | rfl | (simp; done) | (simp [*]; done)), (by first | rfl | (simp; done) | (simp [*]; done)), (by first | rfl | (simp; done) | (simp [*]; done)), (by first | rfl | (simp; done) | (simp [*]; done)), H', ⟨by have := HK1.out; omega⟩, ⟨by repeat (first | (with_reducible first | exact HB.out | apply below_alloc | apply pw_below_drewN | apply below_drew1 | refine below_set ?_ GE157.out) | exact HB.out)⟩⟩
              · rw [if_neg c11] at H
                have c11b0 : (((rd_T76 l1 x12_1).f0) == (-1)) = false := beq_eq_false_iff_ne.mpr c11
                have c11b1 : (((rd_T76 l1 x12_1).f0) != (-1)) = true := bne_iff_ne.mpr c11
                by_cases c16 : ((rd_T76 l1 x12_1).f0) = 0
                · rw [if_pos c16] at H
                  have c16b0 : (((rd_T76 l1 x12_1).f0) == 0) = true := beq_iff_eq.mpr c16
                  have c16b1 : (((rd_T76 l1 x12_1).f0) != 0) = false := bne_eq_false_iff_eq.mpr c16
                  clear c16
                  replace H := Option.bind_eq_some_iff.mp H
                  obtain ⟨t160, A170, H⟩ := H
                  replace H : (diffmatchpatch_DiffMatchPatch_DiffLevenshtein.l0 k1 (wrap64 (x5_1 + t160)) 0 0 l1 (l1.length : Int) (wrap64 (x12_1 + 1))) = some r := H
                  have A17 := Aside0.mk A170
                  clear A170
                  have H' := Aside0.mk H
                  clear H
                  have p156 : 0 ≤ (x12_1 : Int) := of_decide_eq_true (by first | (with_reducible assumption) | assumption)
                  have q156 : x12_1 < (l1.length : Int) := of_decide_eq_true (by first | (with_reducible assumption) | assumption)
                  obtain ⟨ad156, e156, hx156_0, hx156_1⟩ := at_T76 HR1.out x12_1 p156 q156
                  cases e156
                  replace hx156_0 := (HB.out.cell (World.block_lt_of_cell? w _ hx156_0)).trans hx156_0
                  replace hx156_1 := (HB.out.cell (World.block_lt_of_cell? w _ hx156_1)).trans hx156_1
                  replace p156 := eq_true p156
                  replace q156 := eq_true q156
                  go_wp2_with (first | ((with_reducible refine gate_dst (N := 9) rfl ?_); refine box_event ?hg (N := 9) ?hd (cs := #[.int .i8 0, .string (⟨#[]⟩ : ByteArray)]) (t := 76) ?hr ?_; (case hd => rfl); (case hg => rfl); (case hr => first | (go_simp; done) | (go_simp; rfl)); intro gb157 hg w18 hbox hb; have n0_ := Aside0.mk (below_step (by repeat (first | (with_reducible first | exact HB.out | apply below_alloc | apply pw_below_drewN | apply below_drew1) | exact HB.out)) hb); have n1_ := Aside0.mk (hbox); have n2_ := Aside0.mk ((by rw [hg]; exact (below_size (by repeat (first | (with_reducible first | exact HB.out | apply below_alloc | apply pw_below_drewN | apply below_drew1) | exact HB.out))) : w.heap.size ≤ gb157)); have n3_ := Aside0.mk ((by rw [hg]; exact (below_size (by repeat (first | (with_reducible first | exact HB.out | apply below_alloc | apply pw_below_drewN | apply below_drew1) | exact HB.out))) : w.heap.size ≤ gb157)); clear HB; have HB := n0_; have BK157 := n1_; have GW157 := n2_; have GE157 := n3_; clear n0_ n1_ n2_ n3_; clear hb hbox hg; have hcz19_0 : w18.cell? ⟨gb157, 0, none⟩ = some (.int .i8 0) := (blk_cell BK157.out 0).trans rfl; have hcz19_1 : w18.cell? ⟨gb157, 1, none⟩ = some (.string (⟨#[]⟩ : ByteArray)) := (blk_cell BK157.out 1).trans rfl; have hfz19_0 := blk_frozen BK157.out 0; have hfz19_1 := blk_frozen BK157.out 1) | ((with_reducible refine gate_callee (f := 55) rfl ?_); refine goesL_ (some 37) rfl rfl Tryd.func55 (by kernel_rfl) rfl #[.int .i64 x6_1, .int .i64 x7_1] rfl (by (try simp only [List.map_toArray, List.map_cons, List.map_nil]); first | done | rfl | (simp only [List.length_drop, List.length_take]; rfl)) ?_; (with_reducible refine (diffmatchpatch_max.calls x6_1 x7_1 t160 _ A17.out).mono ?_); rintro e w' ⟨rfl, ⟨nd, rfl⟩⟩; refine ⟨_, rfl, ?_⟩))
                  go_roundg k1
                  case measure => have := HK1.out; omega
                  case rel => exact ⟨(wrap64 (x5_1 + t160)), (0), (0), (wrap64 (x12_1 + 1)), (by first | rfl | (simp; done) | (simp [*]; done)), (by first | rfl | (simp; done) | (simp [*]; done)), (by first | rfl | (simp; done) | (simp [*]; done)), (by first | rfl | (simp; done) | (simp [*]; done)), H', ⟨by have := HK1.out; omega⟩, ⟨by repeat (first | (with_reducible first | exact HB.out | apply below_alloc | apply pw_below_drewN | apply below_drew1 | refine below_set ?_ GE157.out) | exact HB.out)⟩⟩
                · rw [if_neg c16] at H
                  have c16b0 : (((rd_T76 l1 x12_1).f0) == 0) = false := beq_eq_false_iff_ne.mpr c16
                  have c16b1 : (((rd_T76 l1 x12_1).f0) != 0) = true := bne_iff_ne.mpr c16
                  have H' := Aside0.mk H
                  clear H
                  have p156 : 0 ≤ (x12_1 : Int) := of_decide_eq_true (by first | (with_reducible assumption) | assumption)
                  have q156 : x12_1 < (l1.length : Int) := of_decide_eq_true (by first | (with_reducible assumption) | assumption)
                  obtain ⟨ad156, e156, hx156_0, hx156_1⟩ := at_T76 HR1.out x12_1 p156 q156
                  cases e156
                  replace hx156_0 := (HB.out.cell (World.block_lt_of_cell? w _ hx156_0)).trans hx156_0
                  replace hx156_1 := (HB.out.cell (World.block_lt_of_cell? w _ hx156_1)).trans hx156_1
                  replace p156 := eq_true p156
                  replace q156 := eq_true q156
                  go_wp2_with (first | ((with_reducible refine gate_dst (N := 9) rfl ?_); refine box_event ?hg (N := 9) ?hd (cs := #[.int .i8 0, .string (⟨#[]⟩ : ByteArray)]) (t := 76) ?hr ?_; (case hd => rfl); (case hg => rfl); (case hr => first | (go_simp; done) | (go_simp; rfl)); intro gb157 hg w20 hbox hb; have n0_ := Aside0.mk (below_step (by repeat (first | (with_reducible first | exact HB.out | apply below_alloc | apply pw_below_drewN | apply below_drew1) | exact HB.out)) hb); have n1_ := Aside0.mk (hbox); have n2_ := Aside0.mk ((by rw [hg]; exact (below_size (by repeat (first | (with_reducible first | exact HB.out | apply below_alloc | apply pw_below_drewN | apply below_drew1) | exact HB.out))) : w.heap.size ≤ gb157)); have n3_ := Aside0.mk ((by rw [hg]; exact (below_size (by repeat (first | (with_reducible first | exact HB.out | apply below_alloc | apply pw_below_drewN | apply below_drew1) | exact HB.out))) : w.heap.size ≤ gb157)); clear HB; have HB := n0_; have BK157 := n1_; have GW157 := n2_; have GE157 := n3_; clear n0_ n1_ n2_ n3_; clear hb hbox hg; have hcz21_0 : w20.cell? ⟨gb157, 0, none⟩ = some (.int .i8 0) := (blk_cell BK157.out 0).trans rfl; have hcz21_1 : w20.cell? ⟨gb157, 1, none⟩ = some (.string (⟨#[]⟩ : ByteArray)) := (blk_cell BK157.out 1).trans rfl; have hfz21_0 := blk_frozen BK157.out 0; have hfz21_1 := blk_frozen BK157.out 1))
                  go_roundg k1
                  case measure => have := HK1.out; omega
                  case rel => exact ⟨(x5_1), (x6_1), (x7_1), (wrap64 (x12_1 + 1)), (by first | rfl | (simp; done) | (simp [*]; done)), (by first | rfl | (simp; done) | (simp [*]; done)), (by first | rfl | (simp; done) | (simp [*]; done)), (by first | rfl | (simp; done) | (simp [*]; done)), H', ⟨by have := HK1.out; omega⟩, ⟨by repeat (first | (with_reducible first | exact HB.out | apply below_alloc | apply pw_below_drewN | apply below_drew1 | refine below_set ?_ GE157.out) | exact HB.out)⟩⟩
          · rw [if_neg c5] at H
            exact absurd H (by simp)
        · rw [if_neg c4] at H
          exact absurd H (by simp)
      · rw [if_neg c3] at H
        have c3b0 : decide (x12_1 < (l1.length : Int)) = false := decide_eq_false c3
        clear c3
        replace H := Option.bind_eq_some_iff.mp H
        obtain ⟨t155, A220, H⟩ := H
        replace H : (some (wrap64 (x5_1 + t155))) = some r := H
        have A22 := Aside0.mk A220
        clear A220
        obtain rfl := Option.some.inj H
        go_wp2_with (first | ((with_reducible refine gate_callee (f := 55) rfl ?_); refine goesL_ (some 43) rfl rfl Tryd.func55 (by kernel_rfl) rfl #[.int .i64 x6_1, .int .i64 x7_1] rfl (by (try simp only [List.map_toArray, List.map_cons, List.map_nil]); first | done | rfl | (simp only [List.length_drop, List.length_take]; rfl)) ?_; (with_reducible refine (diffmatchpatch_max.calls x6_1 x7_1 t155 _ A22.out).mono ?_); rintro e w' ⟨rfl, ⟨nd, rfl⟩⟩; refine ⟨_, rfl, ?_⟩))
        go_ret
        exact ⟨by first | rfl | (simp [errW_none, errW_some] <;> rfl) | (simp [*, errW_none, errW_some] <;> rfl), by repeat (first | (with_reducible first | exact HB.out | apply below_alloc | apply pw_below_drewN | apply below_drew1) | exact HB.out)⟩

/-! ### impl_diffs: function 40 -/
def impl_diffs.l0 : Nat → List (S76) → List (S33) → Int → Int → Option ((List (S76)))
  | 0, _, _, _, _ => none
  | k + 1, x3, x6, x7, x8 => if x8 < x7 then (if 0 ≤ x8 then (if x8 < (x6.length : Int) then (if x3.length < 5864062014805 then (impl_diffs.l0 k (x3 ++ [(⟨IntKind.i8.wrap ((rd_T33 x6 x8).f0), (rd_T33 x6 x8).f1⟩ : S76)]) x6 x7 (wrap64 (x8 + 1))) else (none)) else (none)) else (none)) else (some x3)
def impl_diffs.f (k : Nat) (l0 : List (S33)) : Option ((List (S76))) := impl_diffs.l0 k ([] : List (S76)) l0 (l0.length : Int) 0
theorem impl_diffs.mono_l : ∀ k, (∀ y0 y1 y2 y3, LeO (impl_diffs.l0 k y0 y1 y2 y3) (impl_diffs.l0 (k + 1) y0 y1 y2 y3))
  | 0 => fun _ _ _ _ r h => by simp [impl_diffs.l0] at h
  | k + 1 => by
    have ih0 := impl_diffs.mono_l k
    · intro y0 y1 y2 y3
      unfold impl_diffs.l0
      repeat' first
      | (with_reducible exact ih0 _ _ _ _)
      | (with_reducible exact LeO.refl _)
      | (with_reducible exact LeO.none _)
      | (with_reducible refine LeO.ite ?_ ?_)
      | (with_reducible refine LeO.bind ?_ (fun _ => ?_))
      | exact ih0 _ _ _ _
      | exact LeO.none _
      | refine LeO.ite ?_ ?_
      | refine LeO.bind ?_ (fun _ => ?_)
theorem impl_diffs.mono : ∀ a0 k, LeO (impl_diffs.f k a0) (impl_diffs.f (k + 1) a0) := by
  intro a0 k
  have ih0 := impl_diffs.mono_l k
  unfold impl_diffs.f
  repeat' first
      | (with_reducible exact ih0 _ _ _ _)
      | (with_reducible exact LeO.refl _)
      | (with_reducible exact LeO.none _)
      | (with_reducible refine LeO.ite ?_ ?_)
      | (with_reducible refine LeO.bind ?_ (fun _ => ?_))
      | exact ih0 _ _ _ _
      | exact LeO.none _
      | refine LeO.ite ?_ ?_
      | refine LeO.bind ?_ (fun _ => ?_)
set_option maxHeartbeats 8000000 in
set_option maxRecDepth 100000 in
theorem impl_diffs.calls (k : Nat) (A0 : Option Addr) (c0 : Nat) (l0 : List (S33)) (r : List (S76)) (w : World) (hr0 : Kd.C k33 w A0 l0.length l0) (hc0 : l0.length ≤ c0) (h : impl_diffs.f k l0 = some r) :
    Calls Tryd.prog 40 #[.slice A0 l0.length c0] w fun e w' => ∃ v0_ : Value, e = .returned (v0_) ∧ Kd.R k76 76 w' w.heap.size (fun _ => True) v0_ r ∧ Below w.heap.size w w' := by
  have hu33 := Tryd.underlying33
  have hu76 := Tryd.underlying76
  have HR0 := Aside0.mk hr0
  have HC0 := Aside0.mk hc0
  clear hr0 hc0
  have HB := Aside0.mk (Below.refl w.heap.size w)
  have H : (impl_diffs.l0 k ([] : List (S76)) l0 (l0.length : Int) 0) = some r := h
  clear h
  have H' := Aside0.mk H
  clear H
  go_enter Tryd.func40, Tryd.ntmps40
  go_wp2
  go_loopg [3, 8] k (fun kq v3 v8 w' => ∃ (x3_1 : List (S76)) (x8_1 : Int), v8 = .int .i64 x8_1 ∧ Aside0 (impl_diffs.l0 kq x3_1 l0 (l0.length : Int) x8_1 = some r) ∧ Aside0 (kq ≤ k) ∧ Aside0 (Kd.R k76 76 w' w.heap.size (fun _ => True) v3 x3_1) ∧ Aside0 (Below w.heap.size w w'))
  case atStart => exact ⟨(([] : List (S76))), (0), (by first | rfl | (simp; done) | (simp [*]; done)), H', ⟨Nat.le_refl _⟩, ⟨by first | exact Kd.R_nil _ _ _ _ _ | exact Kd.N_nil _ _ _ _ _ | exact Kd.V_nil _ _ _ _ _ | exact Kd.Q_nil _ _ _ _ _ | exact Kd.S_nil _ _ _ _ _⟩, ⟨by repeat (first | (with_reducible first | exact HB.out | apply below_alloc | apply pw_below_drewN | apply below_drew1) | exact HB.out)⟩⟩
  case round =>
    clear H'
    obtain ⟨x3_1, x8_1, rfl, HA, HK1, HO_3, HB⟩ := hrel
    cases gk with
    | zero => exact absurd HA.out (by simp [impl_diffs.l0])
    | succ k1 =>
      have H := HA.out
      clear HA
      simp only [impl_diffs.l0] at H
      by_cases c2 : x8_1 < (l0.length : Int)
      · rw [if_pos c2] at H
        have c2b0 : decide (x8_1 < (l0.length : Int)) = true := decide_eq_true c2
        clear c2
        by_cases c3 : 0 ≤ x8_1
        · rw [if_pos c3] at H
          have c3b0 : decide (0 ≤ x8_1) = true := decide_eq_true c3
          clear c3
          by_cases c4 : x8_1 < (l0.length : Int)
          · rw [if_pos c4] at H
            have c4b0 : decide (x8_1 < (l0.length : Int)) = true := decide_eq_true c4
            clear c4
            by_cases c5 : x3_1.length < 5864062014805
            · rw [if_pos c5] at H
              have LMc5 := Aside0.mk c5
              clear c5
              obtain ⟨y163, hy163⟩ : ∃ y_ : List (S76), y_ = (x3_1 ++ [(⟨IntKind.i8.wrap ((rd_T33 l0 x8_1).f0), (rd_T33 l0 x8_1).f1⟩ : S76)]) := ⟨_, rfl⟩
              replace H : (impl_diffs.l0 k1 y163 l0 (l0.length : Int) (wrap64 (x8_1 + 1))) = some r := by first | (rw [hy163]; with_reducible exact H) | (have H2_ := (Option.bind_some _ _).symm.trans H; rw [hy163]; with_reducible exact H2_) | (have H2_ := (Option.bind_some _ _).symm.trans H; with_reducible exact H2_) | with_reducible exact H | (rw [hy163]; exact H) | exact H
              have Ny163 := Aside0.mk hy163
              clear hy163
              have H' := Aside0.mk H
              clear H
              have p161 : 0 ≤ (x8_1 : Int) := of_decide_eq_true (by first | (with_reducible assumption) | assumption)
              have q161 : x8_1 < (l0.length : Int) := of_decide_eq_true (by first | (with_reducible assumption) | assumption)
              obtain ⟨ad161, e161, hx161_0, hx161_1⟩ := at_T33 HR0.out x8_1 p161 q161
              cases e161
              replace hx161_0 := (HB.out.cell (World.block_lt_of_cell? w _ hx161_0)).trans hx161_0
              replace hx161_1 := (HB.out.cell (World.block_lt_of_cell? w _ hx161_1)).trans hx161_1
              replace p161 := eq_true p161
              replace q161 := eq_true q161
              go_wp2_with (first | ((with_reducible refine gate_dst (N := 5) rfl ?_); refine box_event ?hg (N := 5) ?hd (cs := #[.int .i64 0, .string (⟨#[]⟩ : ByteArray)]) (t := 33) ?hr ?_; (case hd => rfl); (case hg => rfl); (case hr => first | (go_simp; done) | (go_simp; rfl)); intro gb162 hg w6 hbox hb; have n0_ := Aside0.mk (Kd.R_below (by (with_reducible repeat (first | apply Kd.R_alloc | apply Kd.R_drewN | apply Kd.R_drew)); exact HO_3.out) hb); have n1_ := Aside0.mk (below_step (by repeat (first | (with_reducible first | exact HB.out | apply below_alloc | apply pw_below_drewN | apply below_drew1) | exact HB.out)) hb); have n2_ := Aside0.mk (hbox); have n3_ := Aside0.mk ((by rw [hg]; exact (below_size (by repeat (first | (with_reducible first | exact HB.out | apply below_alloc | apply pw_below_drewN | apply below_drew1) | exact HB.out))) : w.heap.size ≤ gb162)); have n4_ := Aside0.mk ((by rw [hg]; exact (below_size (by repeat (first | (with_reducible first | exact HB.out | apply below_alloc | apply pw_below_drewN | apply below_drew1) | exact HB.out))) : w.heap.size ≤ gb162)); clear HO_3; clear HB; have HO_3 := n0_; have HB := n1_; have BK162 := n2_; have GW162 := n3_; have GE162 := n4_; clear n0_ n1_ n2_ n3_ n4_; clear hb hbox hg; have hcz7_0 : w6.cell? ⟨gb162, 0, none⟩ = some (.int .i64 0) := (blk_cell BK162.out 0).trans rfl; have hcz7_1 : w6.cell? ⟨gb162, 1, none⟩ = some (.string (⟨#[]⟩ : ByteArray)) := (blk_cell BK162.out 1).trans rfl; have hfz7_0 := blk_frozen BK162.out 0; have hfz7_1 := blk_frozen BK162.out 1) | ((with_reducible refine gate_builtin (b := .append) (xs := #[.tmp 12, .tmp 19]) rfl ?_); at_builtin; refine Kd.R_append k76 (w0 := w) w.heap.size rfl (.tmp 12) (.tmp 19) 56 76 (.agg #[(.int .i8 0), (.string ⟨#[]⟩)]) 24 rfl Tryd.underlying56 info76 rfl (by decide) (by omega) u3 x3_1 (⟨IntKind.i8.wrap ((rd_T33 l0 x8_1).f0), (rd_T33 l0 x8_1).f1⟩ : S76) [.int .i8 (IntKind.i8.wrap ((rd_T33 l0 x8_1).f0)), .string ((rd_T33 l0 x8_1).f1)] (fun _ => True) (fun _ => False) rfl (by first | (go_simp; done) | (go_simp; rfl)) ?aP (fun _ hk => hk.elim) ?aF ?aO ?aB ?aS ?aL ?_; (case aP => exact k76_mkM _ _ _ (⟨IntKind.i8.wrap ((rd_T33 l0 x8_1).f0), (rd_T33 l0 x8_1).f1⟩ : S76)); (case aB => exact (by repeat (first | (with_reducible first | exact HB.out | apply below_alloc | apply pw_below_drewN | apply below_drew1 | refine below_set ?_ GE162.out) | exact HB.out))); (case aF => exact (fun _ _ => trivial)); (case aO => exact (by (with_reducible repeat (first | apply Kd.R_alloc | apply Kd.R_drewN | apply Kd.R_drew)); exact Kd.R_mono (Kd.R_far (p := ⟨gb162, 1, none⟩) (Kd.R_far (p := ⟨gb162, 0, none⟩) (Kd.R_types HO_3.out BK162.out (by decide)) (fun _ hk => hk.2) (.int .i64 ((rd_T33 l0 x8_1).f0))) (fun _ hk => hk.2) (.string ((rd_T33 l0 x8_1).f1))) (fun _ hk => trivial))); (case aS => exact (below_size (by repeat (first | (with_reducible first | exact HB.out | apply below_alloc | apply pw_below_drewN | apply below_drew1 | refine below_set ?_ GE162.out) | exact HB.out)))); (case aL => have := LMc5.out; omega); intro v164 w8 ho hb hg hat; rw [← Ny163.out] at ho; have n0_ := Aside0.mk (blk_grown (g := gb162) (o := .cells #[.int .i64 ((rd_T33 l0 x8_1).f0), .string ((rd_T33 l0 x8_1).f1)] 33 (0, 0)) (by (with_reducible repeat (first | refine blk_drewN ?_ _ | refine blk_drew ?_ | refine blk_alloc ?_ _)); refine blk_put (cs := #[.int .i64 ((rd_T33 l0 x8_1).f0), .string (⟨#[]⟩ : ByteArray)]) ?_ 1 _ rfl; (with_reducible repeat (first | refine blk_drewN ?_ _ | refine blk_drew ?_ | refine blk_alloc ?_ _)); refine blk_put (cs := #[.int .i64 0, .string (⟨#[]⟩ : ByteArray)]) ?_ 0 _ rfl; (with_reducible repeat (first | refine blk_drewN ?_ _ | refine blk_drew ?_ | refine blk_alloc ?_ _)); exact BK162.out) hg (Kd.R_ne HO_3.out BK162.out (by decide))); have n1_ := Aside0.mk (hb); have n2_ := Aside0.mk (ho); clear BK162; clear HB; clear HO_3; have BK162 := n0_; have HB := n1_; have HO165 := n2_; clear n0_ n1_ n2_; clear ho hb hg hat))
              go_roundg k1
              case measure => have := HK1.out; omega
              case rel => exact ⟨(y163), (wrap64 (x8_1 + 1)), (by first | rfl | (simp; done) | (simp [*]; done)), H', ⟨by have := HK1.out; omega⟩, ⟨by (with_reducible repeat (first | apply Kd.R_alloc | apply Kd.R_drewN | apply Kd.R_drew)); exact HO165.out⟩, ⟨by repeat (first | (with_reducible first | exact HB.out | apply below_alloc | apply pw_below_drewN | apply below_drew1 | refine below_set ?_ GE162.out) | exact HB.out)⟩⟩
            · rw [if_neg c5] at H
              exact absurd H (by simp)
          · rw [if_neg c4] at H
            exact absurd H (by simp)
        · rw [if_neg c3] at H
          exact absurd H (by simp)
      · rw [if_neg c2] at H
        have c2b0 : decide (x8_1 < (l0.length : Int)) = false := decide_eq_false c2
        clear c2
        obtain rfl := Option.some.inj H
        go_wp2
        go_ret
        exact ⟨_, by first | rfl | (simp [errW_none, errW_some] <;> rfl) | (simp [*, errW_none, errW_some] <;> rfl), by (with_reducible repeat (first | apply Kd.R_alloc | apply Kd.R_drewN | apply Kd.R_drew)); exact HO_3.out, by repeat (first | (with_reducible first | exact HB.out | apply below_alloc | apply pw_below_drewN | apply below_drew1) | exact HB.out)⟩

/-! ### impl_Levenshtein: function 18 -/
def impl_Levenshtein.f (k : Nat) (l0 : List (S33)) : Option (Int) := (impl_plain.f).bind fun _ => ((impl_diffs.f k l0).bind fun t167 => ((diffmatchpatch_DiffMatchPatch_DiffLevenshtein.f k t167).bind fun t170 => (some t170)))
theorem impl_Levenshtein.mono : ∀ a0 k, LeO (impl_Levenshtein.f k a0) (impl_Levenshtein.f (k + 1) a0) := by
  intro a0 k
  unfold impl_Levenshtein.f
  repeat' first
      | (with_reducible exact diffmatchpatch_DiffMatchPatch_DiffLevenshtein.mono _ _)
      | (with_reducible exact impl_diffs.mono _ _)
      | (with_reducible exact LeO.refl _)
      | (with_reducible exact LeO.none _)
      | (with_reducible refine LeO.ite ?_ ?_)
      | (with_reducible refine LeO.bind ?_ (fun _ => ?_))
      | exact diffmatchpatch_DiffMatchPatch_DiffLevenshtein.mono _ _
      | exact impl_diffs.mono _ _
      | exact LeO.none _
      | refine LeO.ite ?_ ?_
      | refine LeO.bind ?_ (fun _ => ?_)
set_option maxHeartbeats 8000000 in
set_option maxRecDepth 100000 in
theorem impl_Levenshtein.calls (k : Nat) (A0 : Option Addr) (c0 : Nat) (l0 : List (S33)) (r : Int) (w : World) (hr0 : Kd.C k33 w A0 l0.length l0) (hc0 : l0.length ≤ c0) (h : impl_Levenshtein.f k l0 = some r) :
    Calls Tryd.prog 18 #[.slice A0 l0.length c0] w fun e w' => e = .returned (.int .i64 r) ∧ Below w.heap.size w w' := by
  have HR0 := Aside0.mk hr0
  have HC0 := Aside0.mk hc0
  clear hr0 hc0
  have HB := Aside0.mk (Below.refl w.heap.size w)
  have H : ((impl_plain.f).bind fun _ => ((impl_diffs.f k l0).bind fun t167 => ((diffmatchpatch_DiffMatchPatch_DiffLevenshtein.f k t167).bind fun t170 => (some t170)))) = some r := h
  clear h
  replace H := Option.bind_eq_some_iff.mp H
  obtain ⟨_, A20, H⟩ := H
  replace H : ((impl_diffs.f k l0).bind fun t167 => ((diffmatchpatch_DiffMatchPatch_DiffLevenshtein.f k t167).bind fun t170 => (some t170))) = some r := H
  have A2 := Aside0.mk A20
  clear A20
  replace H := Option.bind_eq_some_iff.mp H
  obtain ⟨t167, A30, H⟩ := H
  replace H : ((diffmatchpatch_DiffMatchPatch_DiffLevenshtein.f k t167).bind fun t170 => (some t170)) = some r := H
  have A3 := Aside0.mk A30
  clear A30
  replace H := Option.bind_eq_some_iff.mp H
  obtain ⟨t170, A40, H⟩ := H
  replace H : (some t170) = some r := H
  have A4 := Aside0.mk A40
  clear A40
  obtain rfl := Option.some.inj H
  go_enter Tryd.func18, Tryd.ntmps18
  go_wp2_with (first | ((with_reducible refine gate_callee (f := 35) rfl ?_); refine goesL_ (some 3) rfl rfl Tryd.func35 (by kernel_rfl) rfl #[] rfl (by (try simp only [List.map_toArray, List.map_cons, List.map_nil]); first | done | rfl | (simp only [List.length_drop, List.length_take]; rfl)) ?_; (with_reducible refine (impl_plain.calls   _ A2.out).mono ?_); rintro e w5 ⟨v166, rfl, hb⟩; refine ⟨_, rfl, ?_⟩; have n0_ := Aside0.mk (below_step (by repeat (first | (with_reducible first | exact HB.out | apply below_alloc | apply pw_below_drewN | apply below_drew1) | exact HB.out)) hb); clear HB; have HB := n0_; clear n0_; (try clear hb); (try clear hb2); (try clear hk); (try clear hi)) | ((with_reducible refine gate_callee (f := 40) rfl ?_); refine goesL_ (some 5) rfl rfl Tryd.func40 (by kernel_rfl) rfl #[.slice A0 l0.length c0] rfl (by (try simp only [List.map_toArray, List.map_cons, List.map_nil]); first | done | rfl | (simp only [List.length_drop, List.length_take]; rfl)) ?_; (with_reducible refine (impl_diffs.calls k _ _ l0 t167 _ ?side1 ?side2 A3.out).mono ?_); (case side1 => repeat (first | exact (Kd.C_below HR0.out HB.out) | (with_reducible refine Kd.C_alloc ?_ _) | (with_reducible refine Kd.C_drewN ?_ _) | (with_reducible refine Kd.C_drew ?_))); (case side2 => exact HC0.out); rintro e w6 ⟨v168, rfl, ho0, hb⟩; refine ⟨_, rfl, ?_⟩; have n0_ := Aside0.mk (Kd.R_lower ho0 (below_size (by repeat (first | (with_reducible first | exact HB.out | apply below_alloc | apply pw_below_drewN | apply below_drew1) | exact HB.out)))); have n1_ := Aside0.mk (below_step (by repeat (first | (with_reducible first | exact HB.out | apply below_alloc | apply pw_below_drewN | apply below_drew1) | exact HB.out)) hb); clear HB; have HO169 := n0_; have HB := n1_; clear n0_ n1_; (try clear hb); (try clear hb2); (try clear hk); (try clear hi); (try clear ho0); obtain ⟨Ao7, co7, eo7⟩ := Kd.R_slice HO169.out; subst eo7) | ((with_reducible refine gate_callee (f := 39) rfl ?_); refine goesL_ (some 6) rfl rfl Tryd.func39 (by kernel_rfl) rfl #[v166, .slice Ao7 t167.length co7] rfl (by (try simp only [List.map_toArray, List.map_cons, List.map_nil]); first | done | rfl | (simp only [List.length_drop, List.length_take]; rfl)) ?_; (with_reducible refine (diffmatchpatch_DiffMatchPatch_DiffLevenshtein.calls k v166 _ _ t167 t170 _ ?side1 ?side2 A4.out).mono ?_); (case side1 => repeat (first | exact (Kd.R_reads' HO169.out).2.2 | (with_reducible refine Kd.C_alloc ?_ _) | (with_reducible refine Kd.C_drewN ?_ _) | (with_reducible refine Kd.C_drew ?_))); (case side2 => exact (Kd.R_reads' HO169.out).2.1); rintro e w8 ⟨rfl, hb⟩; refine ⟨_, rfl, ?_⟩; have n0_ := Aside0.mk (Kd.R_below (by (with_reducible repeat (first | apply Kd.R_alloc | apply Kd.R_drewN | apply Kd.R_drew)); exact HO169.out) hb); have n1_ := Aside0.mk (below_step (by repeat (first | (with_reducible first | exact HB.out | apply below_alloc | apply pw_below_drewN | apply below_drew1) | exact HB.out)) hb); clear HO169; clear HB; have HO169 := n0_; have HB := n1_; clear n0_ n1_; (try clear hb); (try clear hb2); (try clear hk); (try clear hi)))
  go_ret
  exact ⟨by first | rfl | (simp [errW_none, errW_some] <;> rfl) | (simp [*, errW_none, errW_some] <;> rfl), by repeat (first | (with_reducible first | exact HB.out | apply below_alloc | apply pw_below_drewN | apply below_drew1) | exact HB.out)⟩

/-! ### laws_diffTo: function 19 -/
def laws_diffTo.l0 : Nat → List (S33) → List (S53) → Int → Int → Option ((List (S33)))
  | 0, _, _, _, _ => none
  | k + 1, x3, x6, x7, x8 => if x8 < x7 then (if 0 ≤ x8 then (if x8 < (x6.length : Int) then (if x3.length < 5864062014805 then (laws_diffTo.l0 k (x3 ++ [(⟨(rd_T53 x6 x8).f0, (rd_T53 x6 x8).f1⟩ : S33)]) x6 x7 (wrap64 (x8 + 1))) else (none)) else (none)) else (none)) else (some x3)
def laws_diffTo.f (k : Nat) (l0 : List (S53)) : Option ((List (S33))) := laws_diffTo.l0 k ([] : List (S33)) l0 (l0.length : Int) 0
theorem laws_diffTo.mono_l : ∀ k, (∀ y0 y1 y2 y3, LeO (laws_diffTo.l0 k y0 y1 y2 y3) (laws_diffTo.l0 (k + 1) y0 y1 y2 y3))
  | 0 => fun _ _ _ _ r h => by simp [laws_diffTo.l0] at h
  | k + 1 => by
    have ih0 := laws_diffTo.mono_l k
    · intro y0 y1 y2 y3
      unfold laws_diffTo.l0
      repeat' first
      | (with_reducible exact ih0 _ _ _ _)
      | (with_reducible exact LeO.refl _)
      | (with_reducible exact LeO.none _)
      | (with_reducible refine LeO.ite ?_ ?_)
      | (with_reducible refine LeO.bind ?_ (fun _ => ?_))
      | exact ih0 _ _ _ _
      | exact LeO.none _
      | refine LeO.ite ?_ ?_
      | refine LeO.bind ?_ (fun _ => ?_)
theorem laws_diffTo.mono : ∀ a0 k, LeO (laws_diffTo.f k a0) (laws_diffTo.f (k + 1) a0) := by
  intro a0 k
  have ih0 := laws_diffTo.mono_l k
  unfold laws_diffTo.f
  repeat' first
      | (with_reducible exact ih0 _ _ _ _)
      | (with_reducible exact LeO.refl _)
      | (with_reducible exact LeO.none _)
      | (with_reducible refine LeO.ite ?_ ?_)
      | (with_reducible refine LeO.bind ?_ (fun _ => ?_))
      | exact ih0 _ _ _ _
      | exact LeO.none _
      | refine LeO.ite ?_ ?_
      | refine LeO.bind ?_ (fun _ => ?_)
set_option maxHeartbeats 8000000 in
set_option maxRecDepth 100000 in
theorem laws_diffTo.calls (k : Nat) (A0 : Option Addr) (c0 : Nat) (l0 : List (S53)) (r : List (S33)) (w : World) (hr0 : Kd.C k53 w A0 l0.length l0) (hc0 : l0.length ≤ c0) (h : laws_diffTo.f k l0 = some r) :
    Calls Tryd.prog 19 #[.slice A0 l0.length c0] w fun e w' => ∃ v0_ : Value, e = .returned (v0_) ∧ Kd.R k33 33 w' w.heap.size (fun _ => True) v0_ r ∧ Below w.heap.size w w' := by
  have hu53 := Tryd.underlying53
  have HR0 := Aside0.mk hr0
  have HC0 := Aside0.mk hc0
  clear hr0 hc0
  have HB := Aside0.mk (Below.refl w.heap.size w)
  have H : (laws_diffTo.l0 k ([] : List (S33)) l0 (l0.length : Int) 0) = some r := h
  clear h
  have H' := Aside0.mk H
  clear H
  go_enter Tryd.func19, Tryd.ntmps19
  go_wp2
  go_loopg [3, 8] k (fun kq v3 v8 w' => ∃ (x3_1 : List (S33)) (x8_1 : Int), v8 = .int .i64 x8_1 ∧ Aside0 (laws_diffTo.l0 kq x3_1 l0 (l0.length : Int) x8_1 = some r) ∧ Aside0 (kq ≤ k) ∧ Aside0 (Kd.R k33 33 w' w.heap.size (fun _ => True) v3 x3_1) ∧ Aside0 (Below w.heap.size w w'))
  case atStart => exact ⟨(([] : List (S33))), (0), (by first | rfl | (simp; done) | (simp [*]; done)), H', ⟨Nat.le_refl _⟩, ⟨by first | exact Kd.R_nil _ _ _ _ _ | exact Kd.N_nil _ _ _ _ _ | exact Kd.V_nil _ _ _ _ _ | exact Kd.Q_nil _ _ _ _ _ | exact Kd.S_nil _ _ _ _ _⟩, ⟨by repeat (first | (with_reducible first | exact HB.out | apply below_alloc | apply pw_below_drewN | apply below_drew1) | exact HB.out)⟩⟩
  case round =>
    clear H'
    try clear c1
    obtain ⟨x3_1, x8_1, rfl, HA, HK1, HO_3, HB⟩ := hrel
    cases gk with
    | zero => exact absurd HA.out (by simp [laws_diffTo.l0])
    | succ k1 =>
      have H := HA.out
      clear HA
      simp only [laws_diffTo.l0] at H
      by_cases c2 : x8_1 < (l0.length : Int)
      · rw [if_pos c2] at H
        have c2b0 : decide (x8_1 < (l0.length : Int)) = true := decide_eq_true c2
        clear c2
        by_cases c3 : 0 ≤ x8_1
        · rw [if_pos c3] at H
          have c3b0 : decide (0 ≤ x8_1) = true := decide_eq_true c3
          clear c3
          by_cases c4 : x8_1 < (l0.length : Int)
          · rw [if_pos c4] at H
            have c4b0 : decide (x8_1 < (l0.length : Int)) = true := decide_eq_true c4
            clear c4
            by_cases c5 : x3_1.length < 5864062014805
            · rw [if_pos c5] at H
              have LMc5 := Aside0.mk c5
              clear c5
              obtain ⟨y173, hy173⟩ : ∃ y_ : List (S33), y_ = (x3_1 ++ [(⟨(rd_T53 l0 x8_1).f0, (rd_T53 l0 x8_1).f1⟩ : S33)]) := ⟨_, rfl⟩
              replace H : (laws_diffTo.l0 k1 y173 l0 (l0.length : Int) (wrap64 (x8_1 + 1))) = some r := by first | (rw [hy173]; with_reducible exact H) | (have H2_ := (Option.bind_some _ _).symm.trans H; rw [hy173]; with_reducible exact H2_) | (have H2_ := (Option.bind_some _ _).symm.trans H; with_reducible exact H2_) | with_reducible exact H | (rw [hy173]; exact H) | exact H
              have Ny173 := Aside0.mk hy173
              clear hy173
              have H' := Aside0.mk H
              clear H
              have p171 : 0 ≤ (x8_1 : Int) := of_decide_eq_true (by first | (with_reducible assumption) | assumption)
              have q171 : x8_1 < (l0.length : Int) := of_decide_eq_true (by first | (with_reducible assumption) | assumption)
              obtain ⟨ad171, e171, hx171_0, hx171_1⟩ := at_T53 HR0.out x8_1 p171 q171
              cases e171
              replace hx171_0 := (HB.out.cell (World.block_lt_of_cell? w _ hx171_0)).trans hx171_0
              replace hx171_1 := (HB.out.cell (World.block_lt_of_cell? w _ hx171_1)).trans hx171_1
              replace p171 := eq_true p171
              replace q171 := eq_true q171
              go_wp2_with (first | ((with_reducible refine gate_dst (N := 5) rfl ?_); refine box_event ?hg (N := 5) ?hd (cs := #[.int .i64 0, .string (⟨#[]⟩ : ByteArray)]) (t := 53) ?hr ?_; (case hd => rfl); (case hg => rfl); (case hr => first | (go_simp; done) | (go_simp; rfl)); intro gb172 hg w6 hbox hb; have n0_ := Aside0.mk (Kd.R_below (by (with_reducible repeat (first | apply Kd.R_alloc | apply Kd.R_drewN | apply Kd.R_drew)); exact HO_3.out) hb); have n1_ := Aside0.mk (below_step (by repeat (first | (with_reducible first | exact HB.out | apply below_alloc | apply pw_below_drewN | apply below_drew1) | exact HB.out)) hb); have n2_ := Aside0.mk (hbox); have n3_ := Aside0.mk ((by rw [hg]; exact (below_size (by repeat (first | (with_reducible first | exact HB.out | apply below_alloc | apply pw_below_drewN | apply below_drew1) | exact HB.out))) : w.heap.size ≤ gb172)); have n4_ := Aside0.mk ((by rw [hg]; exact (below_size (by repeat (first | (with_reducible first | exact HB.out | apply below_alloc | apply pw_below_drewN | apply below_drew1) | exact HB.out))) : w.heap.size ≤ gb172)); clear HO_3; clear HB; have HO_3 := n0_; have HB := n1_; have BK172 := n2_; have GW172 := n3_; have GE172 := n4_; clear n0_ n1_ n2_ n3_ n4_; clear hb hbox hg; have hcz7_0 : w6.cell? ⟨gb172, 0, none⟩ = some (.int .i64 0) := (blk_cell BK172.out 0).trans rfl; have hcz7_1 : w6.cell? ⟨gb172, 1, none⟩ = some (.string (⟨#[]⟩ : ByteArray)) := (blk_cell BK172.out 1).trans rfl; have hfz7_0 := blk_frozen BK172.out 0; have hfz7_1 := blk_frozen BK172.out 1) | ((with_reducible refine gate_builtin (b := .append) (xs := #[.tmp 12, .tmp 14]) rfl ?_); at_builtin; refine Kd.R_append k33 (w0 := w) w.heap.size rfl (.tmp 12) (.tmp 14) 29 33 (.agg #[(.int .i64 0), (.string ⟨#[]⟩)]) 24 rfl Tryd.underlying29 info33 rfl (by decide) (by omega) u3 x3_1 (⟨(rd_T53 l0 x8_1).f0, (rd_T53 l0 x8_1).f1⟩ : S33) [.int .i64 ((rd_T53 l0 x8_1).f0), .string ((rd_T53 l0 x8_1).f1)] (fun _ => True) (fun _ => False) rfl (by first | (go_simp; done) | (go_simp; rfl)) ?aP (fun _ hk => hk.elim) ?aF ?aO ?aB ?aS ?aL ?_; (case aP => exact k33_mkM _ _ _ (⟨(rd_T53 l0 x8_1).f0, (rd_T53 l0 x8_1).f1⟩ : S33)); (case aB => exact (by repeat (first | (with_reducible first | exact HB.out | apply below_alloc | apply pw_below_drewN | apply below_drew1 | refine below_set ?_ GE172.out) | exact HB.out))); (case aF => exact (fun _ _ => trivial)); (case aO => exact (by (with_reducible repeat (first | apply Kd.R_alloc | apply Kd.R_drewN | apply Kd.R_drew)); exact Kd.R_mono (Kd.R_far (p := ⟨gb172, 1, none⟩) (Kd.R_far (p := ⟨gb172, 0, none⟩) (Kd.R_types HO_3.out BK172.out (by decide)) (fun _ hk => hk.2) (.int .i64 ((rd_T53 l0 x8_1).f0))) (fun _ hk => hk.2) (.string ((rd_T53 l0 x8_1).f1))) (fun _ hk => trivial))); (case aS => exact (below_size (by repeat (first | (with_reducible first | exact HB.out | apply below_alloc | apply pw_below_drewN | apply below_drew1 | refine below_set ?_ GE172.out) | exact HB.out)))); (case aL => have := LMc5.out; omega); intro v174 w8 ho hb hg hat; rw [← Ny173.out] at ho; have n0_ := Aside0.mk (blk_grown (g := gb172) (o := .cells #[.int .i64 ((rd_T53 l0 x8_1).f0), .string ((rd_T53 l0 x8_1).f1)] 53 (0, 0)) (by (with_reducible repeat (first | refine blk_drewN ?_ _ | refine blk_drew ?_ | refine blk_alloc ?_ _)); refine blk_put (cs := #[.int .i64 ((rd_T53 l0 x8_1).f0), .string (⟨#[]⟩ : ByteArray)]) ?_ 1 _ rfl; (with_reducible repeat (first | refine blk_drewN ?_ _ | refine blk_drew ?_ | refine blk_alloc ?_ _)); refine blk_put (cs := #[.int .i64 0, .string (⟨#[]⟩ : ByteArray)]) ?_ 0 _ rfl; (with_reducible repeat (first | refine blk_drewN ?_ _ | refine blk_drew ?_ | refine blk_alloc ?_ _)); exact BK172.out) hg (Kd.R_ne HO_3.out BK172.out (by decide))); have n1_ := Aside0.mk (hb); have n2_ := Aside0.mk (ho); clear BK172; clear HB; clear HO_3; have BK172 := n0_; have HB := n1_; have HO175 := n2_; clear n0_ n1_ n2_; clear ho hb hg hat))
              go_roundg k1
              case measure => have := HK1.out; omega
              case rel => exact ⟨(y173), (wrap64 (x8_1 + 1)), (by first | rfl | (simp; done) | (simp [*]; done)), H', ⟨by have := HK1.out; omega⟩, ⟨by (with_reducible repeat (first | apply Kd.R_alloc | apply Kd.R_drewN | apply Kd.R_drew)); exact HO175.out⟩, ⟨by repeat (first | (with_reducible first | exact HB.out | apply below_alloc | apply pw_below_drewN | apply below_drew1 | refine below_set ?_ GE172.out) | exact HB.out)⟩⟩
            · rw [if_neg c5] at H
              exact absurd H (by simp)
          · rw [if_neg c4] at H
            exact absurd H (by simp)
        · rw [if_neg c3] at H
          exact absurd H (by simp)
      · rw [if_neg c2] at H
        have c2b0 : decide (x8_1 < (l0.length : Int)) = false := decide_eq_false c2
        clear c2
        obtain rfl := Option.some.inj H
        go_wp2
        go_ret
        exact ⟨_, by first | rfl | (simp [errW_none, errW_some] <;> rfl) | (simp [*, errW_none, errW_some] <;> rfl), by (with_reducible repeat (first | apply Kd.R_alloc | apply Kd.R_drewN | apply Kd.R_drew)); exact HO_3.out, by repeat (first | (with_reducible first | exact HB.out | apply below_alloc | apply pw_below_drewN | apply below_drew1) | exact HB.out)⟩

/-! ### spec_DiffDistance: function 20 -/
def spec_DiffDistance.l0 : Nat → Int → Int → Int → List (S53) → Int → Int → Option (Int)
  | 0, _, _, _, _, _, _ => none
  | k + 1, x3, x4, x5, x9, x10, x11 => if x11 < x10 then (if 0 ≤ x11 then (if x11 < (x9.length : Int) then ((utf8_RuneCountInString.f ((rd_T53 x9 x11).f1)).bind fun t178 => (if ((rd_T53 x9 x11).f0) = 1 then (spec_DiffDistance.l0 k x3 (wrap64 (x4 + t178)) x5 x9 x10 (wrap64 (x11 + 1))) else (if ((rd_T53 x9 x11).f0) = (-1) then (spec_DiffDistance.l0 k x3 x4 (wrap64 (x5 + t178)) x9 x10 (wrap64 (x11 + 1))) else (spec_DiffDistance.l0 k (wrap64 (x3 + (mx x4 x5))) 0 0 x9 x10 (wrap64 (x11 + 1)))))) else (none)) else (none)) else (some (wrap64 (x3 + (mx x4 x5))))
def spec_DiffDistance.f (k : Nat) (l0 : List (S53)) : Option (Int) := spec_DiffDistance.l0 k 0 0 0 l0 (l0.length : Int) 0
theorem spec_DiffDistance.mono_l : ∀ k, (∀ y0 y1 y2 y3 y4 y5, LeO (spec_DiffDistance.l0 k y0 y1 y2 y3 y4 y5) (spec_DiffDistance.l0 (k + 1) y0 y1 y2 y3 y4 y5))
  | 0 => fun _ _ _ _ _ _ r h => by simp [spec_DiffDistance.l0] at h
  | k + 1 => by
    have ih0 := spec_DiffDistance.mono_l k
    · intro y0 y1 y2 y3 y4 y5
      unfold spec_DiffDistance.l0
      repeat' first
      | (with_reducible exact ih0 _ _ _ _ _ _)
      | (with_reducible exact LeO.refl _)
      | (with_reducible exact LeO.none _)
      | (with_reducible refine LeO.ite ?_ ?_)
      | (with_reducible refine LeO.bind ?_ (fun _ => ?_))
      | exact ih0 _ _ _ _ _ _
      | exact LeO.none _
      | refine LeO.ite ?_ ?_
      | refine LeO.bind ?_ (fun _ => ?_)
theorem spec_DiffDistance.mono : ∀ a0 k, LeO (spec_DiffDistance.f k a0) (spec_DiffDistance.f (k + 1) a0) := by
  intro a0 k
  have ih0 := spec_DiffDistance.mono_l k
  unfold spec_DiffDistance.f
  repeat' first
      | (with_reducible exact ih0 _ _ _ _ _ _)
      | (with_reducible exact LeO.refl _)
      | (with_reducible exact LeO.none _)
      | (with_reducible refine LeO.ite ?_ ?_)
      | (with_reducible refine LeO.bind ?_ (fun _ => ?_))
      | exact ih0 _ _ _ _ _ _
      | exact LeO.none _
      | refine LeO.ite ?_ ?_
      | refine LeO.bind ?_ (fun _ => ?_)
set_option maxHeartbeats 8000000 in
set_option maxRecDepth 100000 in
theorem spec_DiffDistance.calls (k : Nat) (A0 : Option Addr) (c0 : Nat) (l0 : List (S53)) (r : Int) (w : World) (hr0 : Kd.C k53 w A0 l0.length l0) (hc0 : l0.length ≤ c0) (h : spec_DiffDistance.f k l0 = some r) :
    Calls Tryd.prog 20 #[.slice A0 l0.length c0] w fun e w' => e = .returned (.int .i64 r) ∧ Below w.heap.size w w' := by
  have hu53 := Tryd.underlying53
  have HR0 := Aside0.mk hr0
  have HC0 := Aside0.mk hc0
  clear hr0 hc0
  have HB := Aside0.mk (Below.refl w.heap.size w)
  have H : (spec_DiffDistance.l0 k 0 0 0 l0 (l0.length : Int) 0) = some r := h
  clear h
  have H' := Aside0.mk H
  clear H
  go_enter Tryd.func20, Tryd.ntmps20
  go_wp2
  go_loopg [3, 4, 5, 11] k (fun kq v3 v4 v5 v11 w' => ∃ (x3_1 : Int) (x4_1 : Int) (x5_1 : Int) (x11_1 : Int), v3 = .int .i64 x3_1 ∧ v4 = .int .i64 x4_1 ∧ v5 = .int .i64 x5_1 ∧ v11 = .int .i64 x11_1 ∧ Aside0 (spec_DiffDistance.l0 kq x3_1 x4_1 x5_1 l0 (l0.length : Int) x11_1 = some r) ∧ Aside0 (kq ≤ k) ∧ Aside0 (Below w.heap.size w w'))
  case atStart => exact ⟨(0), (0), (0), (0), (by first | rfl | (simp; done) | (simp [*]; done)), (by first | rfl | (simp; done) | (simp [*]; done)), (by first | rfl | (simp; done) | (simp [*]; done)), (by first | rfl | (simp; done) | (simp [*]; done)), H', ⟨Nat.le_refl _⟩, ⟨by repeat (first | (with_reducible first | exact HB.out | apply below_alloc | apply pw_below_drewN | apply below_drew1) | exact HB.out)⟩⟩
  case round =>
    clear H'
    obtain ⟨x3_1, x4_1, x5_1, x11_1, rfl, rfl, rfl, rfl, HA, HK1, HB⟩ := hrel
    cases gk with
    | zero => exact absurd HA.out (by simp [spec_DiffDistance.l0])
    | succ k1 =>
      have H := HA.out
      clear HA
      simp only [spec_DiffDistance.l0] at H
      by_cases c2 : x11_1 < (l0.length : Int)
      · rw [if_pos c2] at H
        have c2b0 : decide (x11_1 < (l0.length : Int)) = true := decide_eq_true c2
        clear c2
        by_cases c3 : 0 ≤ x11_1
        · rw [if_pos c3] at H
          have c3b0 : decide (0 ≤ x11_1) = true := decide_eq_true c3
          clear c3
          by_cases c4 : x11_1 < (l0.length : Int)
          · rw [if_pos c4] at H
            have c4b0 : decide (x11_1 < (l0.length : Int)) = true := decide_eq_true c4
            clear c4
            replace H := Option.bind_eq_some_iff.mp H
            obtain ⟨t178, A50, H⟩ := H
            replace H : (if ((rd_T53 l0 x11_1).f0) = 1 then (spec_DiffDistance.l0 k1 x3_1 (wrap64 (x4_1 + t178)) x5_1 l0 (l0.length : Int) (wrap64 (x11_1 + 1))) else (if ((rd_T53 l0 x11_1).f0) = (-1) then (spec_DiffDistance.l0 k1 x3_1 x4_1 (wrap64 (x5_1 + t178)) l0 (l0.length : Int) (wrap64 (x11_1 + 1))) else (spec_DiffDistance.l0 k1 (wrap64 (x3_1 + (mx x4_1 x5_1))) 0 0 l0 (l0.length : Int) (wrap64 (x11_1 + 1))))) = some r := H
            have A5 := Aside0.mk A50
            clear A50
            by_cases c6 : ((rd_T53 l0 x11_1).f0) = 1
            · rw [if_pos c6] at H
              have c6b0 : (((rd_T53 l0 x11_1).f0) == 1) = true := beq_iff_eq.mpr c6
              have c6b1 : (((rd_T53 l0 x11_1).f0) != 1) = false := bne_eq_false_iff_eq.mpr c6
              clear c6
              have H' := Aside0.mk H
              clear H
              have p176 : 0 ≤ (x11_1 : Int) := of_decide_eq_true (by first | (with_reducible assumption) | assumption)
              have q176 : x11_1 < (l0.length : Int) := of_decide_eq_true (by first | (with_reducible assumption) | assumption)
              obtain ⟨ad176, e176, hx176_0, hx176_1⟩ := at_T53 HR0.out x11_1 p176 q176
              cases e176
              replace hx176_0 := (HB.out.cell (World.block_lt_of_cell? w _ hx176_0)).trans hx176_0
              replace hx176_1 := (HB.out.cell (World.block_lt_of_cell? w _ hx176_1)).trans hx176_1
              replace p176 := eq_true p176
              replace q176 := eq_true q176
              go_wp2_with (first | ((with_reducible refine gate_dst (N := 7) rfl ?_); refine box_event ?hg (N := 7) ?hd (cs := #[.int .i64 0, .string (⟨#[]⟩ : ByteArray)]) (t := 53) ?hr ?_; (case hd => rfl); (case hg => rfl); (case hr => first | (go_simp; done) | (go_simp; rfl)); intro gb177 hg w7 hbox hb; have n0_ := Aside0.mk (below_step (by repeat (first | (with_reducible first | exact HB.out | apply below_alloc | apply pw_below_drewN | apply below_drew1) | exact HB.out)) hb); have n1_ := Aside0.mk (hbox); have n2_ := Aside0.mk ((by rw [hg]; exact (below_size (by repeat (first | (with_reducible first | exact HB.out | apply below_alloc | apply pw_below_drewN | apply below_drew1) | exact HB.out))) : w.heap.size ≤ gb177)); have n3_ := Aside0.mk ((by rw [hg]; exact (below_size (by repeat (first | (with_reducible first | exact HB.out | apply below_alloc | apply pw_below_drewN | apply below_drew1) | exact HB.out))) : w.heap.size ≤ gb177)); clear HB; have HB := n0_; have BK177 := n1_; have GW177 := n2_; have GE177 := n3_; clear n0_ n1_ n2_ n3_; clear hb hbox hg; have hcz8_0 : w7.cell? ⟨gb177, 0, none⟩ = some (.int .i64 0) := (blk_cell BK177.out 0).trans rfl; have hcz8_1 : w7.cell? ⟨gb177, 1, none⟩ = some (.string (⟨#[]⟩ : ByteArray)) := (blk_cell BK177.out 1).trans rfl; have hfz8_0 := blk_frozen BK177.out 0; have hfz8_1 := blk_frozen BK177.out 1) | ((with_reducible refine gate_callee (f := 30) rfl ?_); refine goesL_ (some 17) rfl rfl Tryd.func30 (by kernel_rfl) rfl #[.string ((rd_T53 l0 x11_1).f1)] rfl (by (try simp only [List.map_toArray, List.map_cons, List.map_nil]); first | done | rfl | (simp only [List.length_drop, List.length_take]; rfl)) ?_; (with_reducible refine (utf8_RuneCountInString.calls ((rd_T53 l0 x11_1).f1) t178 _ A5.out).mono ?_); rintro e w9 ⟨rfl, hb⟩; refine ⟨_, rfl, ?_⟩; have n0_ := Aside0.mk (blk_below (g := gb177) (o := .cells #[.int .i64 ((rd_T53 l0 x11_1).f0), .string ((rd_T53 l0 x11_1).f1)] 53 (0, 0)) (by (with_reducible repeat (first | refine blk_drewN ?_ _ | refine blk_drew ?_ | refine blk_alloc ?_ _)); refine blk_put (cs := #[.int .i64 ((rd_T53 l0 x11_1).f0), .string (⟨#[]⟩ : ByteArray)]) ?_ 1 _ rfl; (with_reducible repeat (first | refine blk_drewN ?_ _ | refine blk_drew ?_ | refine blk_alloc ?_ _)); refine blk_put (cs := #[.int .i64 0, .string (⟨#[]⟩ : ByteArray)]) ?_ 0 _ rfl; (with_reducible repeat (first | refine blk_drewN ?_ _ | refine blk_drew ?_ | refine blk_alloc ?_ _)); exact BK177.out) hb); have n1_ := Aside0.mk (below_step (by repeat (first | (with_reducible first | exact HB.out | apply below_alloc | apply pw_below_drewN | apply below_drew1 | refine below_set ?_ GE177.out) | exact HB.out)) hb); clear BK177; clear HB; have BK177 := n0_; have HB := n1_; clear n0_ n1_; (try clear hb); (try clear hb2); (try clear hk); (try clear hi); have hcz10_0 : w9.cell? ⟨gb177, 0, none⟩ = some (.int .i64 ((rd_T53 l0 x11_1).f0)) := (blk_cell BK177.out 0).trans rfl; have hcz10_1 : w9.cell? ⟨gb177, 1, none⟩ = some (.string ((rd_T53 l0 x11_1).f1)) := (blk_cell BK177.out 1).trans rfl; have hfz10_0 := blk_frozen BK177.out 0; have hfz10_1 := blk_frozen BK177.out 1))
              go_roundg k1
              case measure => have := HK1.out; omega
              case rel => exact ⟨(x3_1), (wrap64 (x4_1 + t178)), (x5_1), (wrap64 (x11_1 + 1)), (by first | rfl | (simp; done) | (simp [*]; done)), (by first | rfl | (simp; done) | (simp [*]; done)), (by first | rfl | (simp; done) | (simp [*]; done)), (by first | rfl | (simp; done) | (simp [*]; done)), H', ⟨by have := HK1.out; omega⟩, ⟨by repeat (first | (with_reducible first | exact HB.out | apply below_alloc | apply pw_below_drewN | apply below_drew1 | refine below_set ?_ GE177.out) | exact HB.out)⟩⟩
            · rw [if_neg c6] at H
              have c6b0 : (((rd_T53 l0 x11_1).f0) == 1) = false := beq_eq_false_iff_ne.mpr c6
              have c6b1 : (((rd_T53 l0 x11_1).f0) != 1) = true := bne_iff_ne.mpr c6
              by_cases c11 : ((rd_T53 l0 x11_1).f0) = (-1)
              · rw [if_pos c11] at H
                have c11b0 : (((rd_T53 l0 x11_1).f0) == (-1)) = true := beq_iff_eq.mpr c11
                have c11b1 : (((rd_T53 l0 x11_1).f0) != (-1)) = false := bne_eq_false_iff_eq.mpr c11
                clear c11
                have H' := Aside0.mk H
                clear H
                have p176 : 0 ≤ (x11_1 : Int) := of_decide_eq_true (by first | (with_reducible assumption) | assumption)
                have q176 : x11_1 < (l0.length : Int) := of_decide_eq_true (by first | (with_reducible assumption) | assumption)
                obtain ⟨ad176, e176, hx176_0, hx176_1⟩ := at_T53 HR0.out x11_1 p176 q176
                cases e176
                replace hx176_0 := (HB.out.cell (World.block_lt_of_cell? w _ hx176_0)).trans hx176_0
                replace hx176_1 := (HB.out.cell (World.block_lt_of_cell? w _ hx176_1)).trans hx176_1
                replace p176 := eq_true p176
                replace q176 := eq_true q176
                go_wp2_with (first | ((with_reducible refine gate_dst (N := 7) rfl ?_); refine box_event ?hg (N := 7) ?hd (cs := #[.int .i64 0, .string (⟨#[]⟩ : ByteArray)]) (t := 53) ?hr ?_; (case hd => rfl); (case hg => rfl); (case hr => first | (go_simp; done) | (go_simp; rfl)); intro gb177 hg w12 hbox hb; have n0_ := Aside0.mk (below_step (by repeat (first | (with_reducible first | exact HB.out | apply below_alloc | apply pw_below_drewN | apply below_drew1) | exact HB.out)) hb); have n1_ := Aside0.mk (hbox); have n2_ := Aside0.mk ((by rw [hg]; exact (below_size (by repeat (first | (with_reducible first | exact HB.out | apply below_alloc | apply pw_below_drewN | apply below_drew1) | exact HB.out))) : w.heap.size ≤ gb177)); have n3_ := Aside0.mk ((by rw [hg]; exact (below_size (by repeat (first | (with_reducible first | exact HB.out | apply below_alloc | apply pw_below_drewN | apply below_drew1) | exact HB.out))) : w.heap.size ≤ gb177)); clear HB; have HB := n0_; have BK177 := n1_; have GW177 := n2_; have GE177 := n3_; clear n0_ n1_ n2_ n3_; clear hb hbox hg; have hcz13_0 : w12.cell? ⟨gb177, 0, none⟩ = some (.int .i64 0) := (blk_cell BK177.out 0).trans rfl; have hcz13_1 : w12.cell? ⟨gb177, 1, none⟩ = some (.string (⟨#[]⟩ : ByteArray)) := (blk_cell BK177.out 1).trans rfl; have hfz13_0 := blk_frozen BK177.out 0; have hfz13_1 := blk_frozen BK177.out 1) | ((with_reducible refine gate_callee (f := 30) rfl ?_); refine goesL_ (some 17) rfl rfl Tryd.func30 (by kernel_rfl) rfl #[.string ((rd_T53 l0 x11_1).f1)] rfl (by (try simp only [List.map_toArray, List.map_cons, List.map_nil]); first | done | rfl | (simp only [List.length_drop, List.length_take]; rfl)) ?_; (with_reducible refine (utf8_RuneCountInString.calls ((rd_T53 l0 x11_1).f1) t178 _ A5.out).mono ?_); rintro e w14 ⟨rfl, hb⟩; refine ⟨_, rfl, ?_⟩; have n0_ := Aside0.mk (blk_below (g := gb177) (o := .cells #[.int .i64 ((rd_T53 l0 x11_1).f0), .string ((rd_T53 l0 x11_1).f1)] 53 (0, 0)) (by (with_reducible repeat (first | refine blk_drewN ?_ _ | refine blk_drew ?_ | refine blk_alloc ?_ _)); refine blk_put (cs := #[.int .i64 ((rd_T53 l0 x11_1).f0), .string (⟨#[]⟩ : ByteArray)]) ?_ 1 _ rfl; (with_reducible repeat (first | refine blk_drewN ?_ _ | refine blk_drew ?_ | refine blk_alloc ?_ _)); refine blk_put (cs := #[.int .i64 0, .string (⟨#[]⟩ : ByteArray)]) ?_ 0 _ rfl; (with_reducible repeat (first | refine blk_drewN ?_ _ | refine blk_drew ?_ | refine blk_alloc ?_ _)); exact BK177.out) hb); have n1_ := Aside0.mk (below_step (by repeat (first | (with_reducible first | exact HB.out | apply below_alloc | apply pw_below_drewN | apply below_drew1 | refine below_set ?_ GE177.out) | exact HB.out)) hb); clear BK177; clear HB; have BK177 := n0_; have HB := n1_; clear n0_ n1_; (try clear hb); (try clear hb2); (try clear hk); (try clear hi); have hcz15_0 : w14.cell? ⟨gb177, 0, none⟩ = some (.int .i64 ((rd_T53 l0 x11_1).f0)) := (blk_cell BK177.out 0).trans rfl; have hcz15_1 : w14.cell? ⟨gb177, 1, none⟩ = some (.string ((rd_T53 l0 x11_1).f1)) := (blk_cell BK177.out 1).trans rfl; have hfz15_0 := blk_frozen BK177.out 0; have hfz15_1 := blk_frozen BK177.out 1))
                go_roundg k1
                case measure => have := HK1.out; omega
                case rel => exact ⟨(x3_1), (x4_1), (wrap64 (x5_1 + t178)), (wrap64 (x11_1 + 1)), (by first | rfl | (simp; done) | (simp [*]; done)), (by first | rfl | (simp; done) | (simp [*]; done)), (by first | rfl | (simp; done) | (simp [*]; done)), (by first | rfl | (simp; done) | (simp [*]; done)), H', ⟨by have := HK1.out; omega⟩, ⟨by repeat (first | (with_reducible first | exact HB.out | apply below_alloc | apply pw_below_drewN | apply below_drew1 | refine below_set ?_ GE177.out) | exact HB.out)⟩⟩
              · rw [if_neg c11] at H
                have c11b0 : (((rd_T53 l0 x11_1).f0) == (-1)) = false := beq_eq_false_iff_ne.mpr c11
                have c11b1 : (((rd_T53 l0 x11_1).f0) != (-1)) = true := bne_iff_ne.mpr c11
                obtain ⟨ji16, hji16⟩ : ∃ j_ : Int, (mx x4_1 x5_1) = j_ := ⟨_, rfl⟩
                replace H : (spec_DiffDistance.l0 k1 (wrap64 (x3_1 + (ji16))) 0 0 l0 (l0.length : Int) (wrap64 (x11_1 + 1))) = some r := by first | (rw [hji16] at H; exact H) | (simp only [hji16] at H ⊢; exact H)
                (try rw [hji16] at A5)
                have hji16_ : (if x4_1 < x5_1 then x5_1 else x4_1) = ji16 := hji16
                have H' := Aside0.mk H
                clear H
                have p176 : 0 ≤ (x11_1 : Int) := of_decide_eq_true (by first | (with_reducible assumption) | assumption)
                have q176 : x11_1 < (l0.length : Int) := of_decide_eq_true (by first | (with_reducible assumption) | assumption)
                obtain ⟨ad176, e176, hx176_0, hx176_1⟩ := at_T53 HR0.out x11_1 p176 q176
                cases e176
                replace hx176_0 := (HB.out.cell (World.block_lt_of_cell? w _ hx176_0)).trans hx176_0
                replace hx176_1 := (HB.out.cell (World.block_lt_of_cell? w _ hx176_1)).trans hx176_1
                replace p176 := eq_true p176
                replace q176 := eq_true q176
                go_wp2_with (first | ((with_reducible refine gate_dst (N := 7) rfl ?_); refine box_event ?hg (N := 7) ?hd (cs := #[.int .i64 0, .string (⟨#[]⟩ : ByteArray)]) (t := 53) ?hr ?_; (case hd => rfl); (case hg => rfl); (case hr => first | (go_simp; done) | (go_simp; rfl)); intro gb177 hg w17 hbox hb; have n0_ := Aside0.mk (below_step (by repeat (first | (with_reducible first | exact HB.out | apply below_alloc | apply pw_below_drewN | apply below_drew1) | exact HB.out)) hb); have n1_ := Aside0.mk (hbox); have n2_ := Aside0.mk ((by rw [hg]; exact (below_size (by repeat (first | (with_reducible first | exact HB.out | apply below_alloc | apply pw_below_drewN | apply below_drew1) | exact HB.out))) : w.heap.size ≤ gb177)); have n3_ := Aside0.mk ((by rw [hg]; exact (below_size (by repeat (first | (with_reducible first | exact HB.out | apply below_alloc | apply pw_below_drewN | apply below_drew1) | exact HB.out))) : w.heap.size ≤ gb177)); clear HB; have HB := n0_; have BK177 := n1_; have GW177 := n2_; have GE177 := n3_; clear n0_ n1_ n2_ n3_; clear hb hbox hg; have hcz18_0 : w17.cell? ⟨gb177, 0, none⟩ = some (.int .i64 0) := (blk_cell BK177.out 0).trans rfl; have hcz18_1 : w17.cell? ⟨gb177, 1, none⟩ = some (.string (⟨#[]⟩ : ByteArray)) := (blk_cell BK177.out 1).trans rfl; have hfz18_0 := blk_frozen BK177.out 0; have hfz18_1 := blk_frozen BK177.out 1) | ((with_reducible refine gate_callee (f := 30) rfl ?_); refine goesL_ (some 17) rfl rfl Tryd.func30 (by kernel_rfl) rfl #[.string ((rd_T53 l0 x11_1).f1)] rfl (by (try simp only [List.map_toArray, List.map_cons, List.map_nil]); first | done | rfl | (simp only [List.length_drop, List.length_take]; rfl)) ?_; (with_reducible refine (utf8_RuneCountInString.calls ((rd_T53 l0 x11_1).f1) t178 _ A5.out).mono ?_); rintro e w19 ⟨rfl, hb⟩; refine ⟨_, rfl, ?_⟩; have n0_ := Aside0.mk (blk_below (g := gb177) (o := .cells #[.int .i64 ((rd_T53 l0 x11_1).f0), .string ((rd_T53 l0 x11_1).f1)] 53 (0, 0)) (by (with_reducible repeat (first | refine blk_drewN ?_ _ | refine blk_drew ?_ | refine blk_alloc ?_ _)); refine blk_put (cs := #[.int .i64 ((rd_T53 l0 x11_1).f0), .string (⟨#[]⟩ : ByteArray)]) ?_ 1 _ rfl; (with_reducible repeat (first | refine blk_drewN ?_ _ | refine blk_drew ?_ | refine blk_alloc ?_ _)); refine blk_put (cs := #[.int .i64 0, .string (⟨#[]⟩ : ByteArray)]) ?_ 0 _ rfl; (with_reducible repeat (first | refine blk_drewN ?_ _ | refine blk_drew ?_ | refine blk_alloc ?_ _)); exact BK177.out) hb); have n1_ := Aside0.mk (below_step (by repeat (first | (with_reducible first | exact HB.out | apply below_alloc | apply pw_below_drewN | apply below_drew1 | refine below_set ?_ GE177.out) | exact HB.out)) hb); clear BK177; clear HB; have BK177 := n0_; have HB := n1_; clear n0_ n1_; (try clear hb); (try clear hb2); (try clear hk); (try clear hi); have hcz20_0 : w19.cell? ⟨gb177, 0, none⟩ = some (.int .i64 ((rd_T53 l0 x11_1).f0)) := (blk_cell BK177.out 0).trans rfl; have hcz20_1 : w19.cell? ⟨gb177, 1, none⟩ = some (.string ((rd_T53 l0 x11_1).f1)) := (blk_cell BK177.out 1).trans rfl; have hfz20_0 := blk_frozen BK177.out 0; have hfz20_1 := blk_frozen BK177.out 1))
                go_roundg k1
                case measure => have := HK1.out; omega
                case rel => exact ⟨(wrap64 (x3_1 + (ji16))), (0), (0), (wrap64 (x11_1 + 1)), (by first | rfl | (simp; done) | (simp only [← hji16] <;> (first | rfl | simp)) | (simp [*]; done)), (by first | rfl | (simp; done) | (simp [*]; done)), (by first | rfl | (simp; done) | (simp [*]; done)), (by first | rfl | (simp; done) | (simp [*]; done)), H', ⟨by have := HK1.out; omega⟩, ⟨by repeat (first | (with_reducible first | exact HB.out | apply below_alloc | apply pw_below_drewN | apply below_drew1 | refine below_set ?_ GE177.out) | exact HB.out)⟩⟩
          · rw [if_neg c4] at H
            exact absurd H (by simp)
        · rw [if_neg c3] at H
          exact absurd H (by simp)
      · rw [if_neg c2] at H
        have c2b0 : decide (x11_1 < (l0.length : Int)) = false := decide_eq_false c2
        clear c2
        obtain ⟨ji21, hji21⟩ : ∃ j_ : Int, (mx x4_1 x5_1) = j_ := ⟨_, rfl⟩
        replace H : (some (wrap64 (x3_1 + (ji21)))) = some r := by first | (rw [hji21] at H; exact H) | (simp only [hji21] at H ⊢; exact H)
        have hji21_ : (if x4_1 < x5_1 then x5_1 else x4_1) = ji21 := hji21
        obtain rfl := Option.some.inj H
        go_wp2
        go_ret
        exact ⟨by first | rfl | (simp [errW_none, errW_some] <;> rfl) | (simp only [← hji21]; first | rfl | (simp [errW_none, errW_some] <;> rfl)) | (simp [*, errW_none, errW_some] <;> rfl), by repeat (first | (with_reducible first | exact HB.out | apply below_alloc | apply pw_below_drewN | apply below_drew1) | exact HB.out)⟩

/-! ### laws_FnLevenshtein: function 4 -/
def laws_FnLevenshtein.f (k : Nat) (l0 : List (S53)) : Option (Bool) := (laws_zzFits1.f k l0).bind fun t179 => (if t179 = true then ((spec_IsDiffs.f k l0).bind fun t180 => (if t180 = true then ((laws_diffTo.f k l0).bind fun t181 => ((impl_Levenshtein.f k t181).bind fun t184 => ((spec_DiffDistance.f k l0).bind fun t185 => (if t184 = t185 then ((impl_Levenshtein.f k (([(⟨1, (⟨#[97, 98]⟩ : ByteArray)⟩ : S33)] : List (S33)))).bind fun t189 => (some (t189 == 2))) else (some false))))) else (some true))) else (some true))
theorem laws_FnLevenshtein.mono : ∀ a0 k, LeO (laws_FnLevenshtein.f k a0) (laws_FnLevenshtein.f (k + 1) a0) := by
  intro a0 k
  unfold laws_FnLevenshtein.f
  repeat' first
      | (with_reducible exact impl_Levenshtein.mono _ _)
      | (with_reducible exact laws_diffTo.mono _ _)
      | (with_reducible exact laws_zzFits1.mono _ _)
      | (with_reducible exact spec_DiffDistance.mono _ _)
      | (with_reducible exact spec_IsDiffs.mono _ _)
      | (with_reducible exact LeO.refl _)
      | (with_reducible exact LeO.none _)
      | (with_reducible refine LeO.ite ?_ ?_)
      | (with_reducible refine LeO.bind ?_ (fun _ => ?_))
      | exact impl_Levenshtein.mono _ _
      | exact laws_diffTo.mono _ _
      | exact laws_zzFits1.mono _ _
      | exact spec_DiffDistance.mono _ _
      | exact spec_IsDiffs.mono _ _
      | exact LeO.none _
      | refine LeO.ite ?_ ?_
      | refine LeO.bind ?_ (fun _ => ?_)
set_option maxHeartbeats 8000000 in
set_option maxRecDepth 100000 in
theorem laws_FnLevenshtein.calls (k : Nat) (A0 : Option Addr) (c0 : Nat) (l0 : List (S53)) (r : Bool) (w : World) (hG_ : Glob w) (hr0 : Kd.C k53 w A0 l0.length l0) (hc0 : l0.length ≤ c0) (h : laws_FnLevenshtein.f k l0 = some r) :
    Calls Tryd.prog 4 #[.slice A0 l0.length c0] w fun e w' => e = .returned (.bool r) ∧ Below w.heap.size w w' := by
  have hu33 := Tryd.underlying33
  have HR0 := Aside0.mk hr0
  have HC0 := Aside0.mk hc0
  clear hr0 hc0
  have HB := Aside0.mk (Below.refl w.heap.size w)
  have H : ((laws_zzFits1.f k l0).bind fun t179 => (if t179 = true then ((spec_IsDiffs.f k l0).bind fun t180 => (if t180 = true then ((laws_diffTo.f k l0).bind fun t181 => ((impl_Levenshtein.f k t181).bind fun t184 => ((spec_DiffDistance.f k l0).bind fun t185 => (if t184 = t185 then ((impl_Levenshtein.f k (([(⟨1, (⟨#[97, 98]⟩ : ByteArray)⟩ : S33)] : List (S33)))).bind fun t189 => (some (t189 == 2))) else (some false))))) else (some true))) else (some true))) = some r := h
  clear h
  replace H := Option.bind_eq_some_iff.mp H
  obtain ⟨t179, A20, H⟩ := H
  replace H : (if t179 = true then ((spec_IsDiffs.f k l0).bind fun t180 => (if t180 = true then ((laws_diffTo.f k l0).bind fun t181 => ((impl_Levenshtein.f k t181).bind fun t184 => ((spec_DiffDistance.f k l0).bind fun t185 => (if t184 = t185 then ((impl_Levenshtein.f k (([(⟨1, (⟨#[97, 98]⟩ : ByteArray)⟩ : S33)] : List (S33)))).bind fun t189 => (some (t189 == 2))) else (some false))))) else (some true))) else (some true)) = some r := H
  have A2 := Aside0.mk A20
  clear A20
  by_cases c3 : t179 = true
  · subst c3
    have H1 : ((spec_IsDiffs.f k l0).bind fun t180 => (if t180 = true then ((laws_diffTo.f k l0).bind fun t181 => ((impl_Levenshtein.f k t181).bind fun t184 => ((spec_DiffDistance.f k l0).bind fun t185 => (if t184 = t185 then ((impl_Levenshtein.f k (([(⟨1, (⟨#[97, 98]⟩ : ByteArray)⟩ : S33)] : List (S33)))).bind fun t189 => (some (t189 == 2))) else (some false))))) else (some true))) = some r := by rw [if_pos rfl] at H; exact H
    clear H
    have H := H1
    clear H1
    replace H := Option.bind_eq_some_iff.mp H
    obtain ⟨t180, A40, H⟩ := H
    replace H : (if t180 = true then ((laws_diffTo.f k l0).bind fun t181 => ((impl_Levenshtein.f k t181).bind fun t184 => ((spec_DiffDistance.f k l0).bind fun t185 => (if t184 = t185 then ((impl_Levenshtein.f k (([(⟨1, (⟨#[97, 98]⟩ : ByteArray)⟩ : S33)] : List (S33)))).bind fun t189 => (some (t189 == 2))) else (some false))))) else (some true)) = some r := H
    have A4 := Aside0.mk A40
    clear A40
    by_cases c5 : t180 = true
    · subst c5
      have H1 : ((laws_diffTo.f k l0).bind fun t181 => ((impl_Levenshtein.f k t181).bind fun t184 => ((spec_DiffDistance.f k l0).bind fun t185 => (if t184 = t185 then ((impl_Levenshtein.f k (([(⟨1, (⟨#[97, 98]⟩ : ByteArray)⟩ : S33)] : List (S33)))).bind fun t189 => (some (t189 == 2))) else (some false))))) = some r := by rw [if_pos rfl] at H; exact H
      clear H
      have H := H1
      clear H1
      replace H := Option.bind_eq_some_iff.mp H
      obtain ⟨t181, A60, H⟩ := H
      replace H : ((impl_Levenshtein.f k t181).bind fun t184 => ((spec_DiffDistance.f k l0).bind fun t185 => (if t184 = t185 then ((impl_Levenshtein.f k (([(⟨1, (⟨#[97, 98]⟩ : ByteArray)⟩ : S33)] : List (S33)))).bind fun t189 => (some (t189 == 2))) else (some false)))) = some r := H
      have A6 := Aside0.mk A60
      clear A60
      replace H := Option.bind_eq_some_iff.mp H
      obtain ⟨t184, A70, H⟩ := H
      replace H : ((spec_DiffDistance.f k l0).bind fun t185 => (if t184 = t185 then ((impl_Levenshtein.f k (([(⟨1, (⟨#[97, 98]⟩ : ByteArray)⟩ : S33)] : List (S33)))).bind fun t189 => (some (t189 == 2))) else (some false))) = some r := H
      have A7 := Aside0.mk A70
      clear A70
      replace H := Option.bind_eq_some_iff.mp H
      obtain ⟨t185, A80, H⟩ := H
      replace H : (if t184 = t185 then ((impl_Levenshtein.f k (([(⟨1, (⟨#[97, 98]⟩ : ByteArray)⟩ : S33)] : List (S33)))).bind fun t189 => (some (t189 == 2))) else (some false)) = some r := H
      have A8 := Aside0.mk A80
      clear A80
      by_cases c9 : t184 = t185
      · rw [if_pos c9] at H
        have c9b0 : (t184 == t185) = true := beq_iff_eq.mpr c9
        have c9b1 : (t184 != t185) = false := bne_eq_false_iff_eq.mpr c9
        clear c9
        obtain ⟨y186, hy186⟩ : ∃ y_ : List (S33), y_ = (([(⟨1, (⟨#[97, 98]⟩ : ByteArray)⟩ : S33)] : List (S33))) := ⟨_, rfl⟩
        replace H : ((impl_Levenshtein.f k y186).bind fun t189 => (some (t189 == 2))) = some r := by first | (rw [hy186]; with_reducible exact H) | (have H2_ := (Option.bind_some _ _).symm.trans H; rw [hy186]; with_reducible exact H2_) | (have H2_ := (Option.bind_some _ _).symm.trans H; with_reducible exact H2_) | with_reducible exact H | (rw [hy186]; exact H) | exact H
        have Ny186 := Aside0.mk hy186
        clear hy186
        replace H := Option.bind_eq_some_iff.mp H
        obtain ⟨t189, A100, H⟩ := H
        replace H : (some (t189 == 2)) = some r := H
        have A10 := Aside0.mk A100
        clear A100
        obtain rfl := Option.some.inj H
        go_enter Tryd.func4, Tryd.ntmps4
        go_wp2_with (first | ((with_reducible refine gate_callee (f := 16) rfl ?_); refine goesL_ (some 4) rfl rfl Tryd.func16 (by kernel_rfl) rfl #[.slice A0 l0.length c0] rfl (by (try simp only [List.map_toArray, List.map_cons, List.map_nil]); first | done | rfl | (simp only [List.length_drop, List.length_take]; rfl)) ?_; (with_reducible refine (laws_zzFits1.calls k _ _ l0 true _ ?side1 ?side2 A2.out).mono ?_); (case side1 => repeat (first | exact HR0.out | (with_reducible refine Kd.C_alloc ?_ _) | (with_reducible refine Kd.C_drewN ?_ _) | (with_reducible refine Kd.C_drew ?_))); (case side2 => exact HC0.out); rintro e w11 ⟨rfl, hb⟩; refine ⟨_, rfl, ?_⟩; have n0_ := Aside0.mk (below_step (by repeat (first | (with_reducible first | exact HB.out | apply below_alloc | apply pw_below_drewN | apply below_drew1) | exact HB.out)) hb); clear HB; have HB := n0_; clear n0_; (try clear hb); (try clear hb2); (try clear hk); (try clear hi)) | ((with_reducible refine gate_callee (f := 17) rfl ?_); refine goesL_ (some 7) rfl rfl Tryd.func17 (by kernel_rfl) rfl #[.slice A0 l0.length c0] rfl (by (try simp only [List.map_toArray, List.map_cons, List.map_nil]); first | done | rfl | (simp only [List.length_drop, List.length_take]; rfl)) ?_; (with_reducible refine (spec_IsDiffs.calls k _ _ l0 true _ ?side1 ?side2 ?side3 A4.out).mono ?_); (case side1 => exact Glob.below hG_ (by repeat (first | (with_reducible first | exact HB.out | apply below_alloc | apply pw_below_drewN | apply below_drew1) | exact HB.out))); (case side2 => repeat (first | exact (Kd.C_below HR0.out HB.out) | (with_reducible refine Kd.C_alloc ?_ _) | (with_reducible refine Kd.C_drewN ?_ _) | (with_reducible refine Kd.C_drew ?_))); (case side3 => exact HC0.out); rintro e w12 ⟨rfl, hb⟩; refine ⟨_, rfl, ?_⟩; have n0_ := Aside0.mk (below_step (by repeat (first | (with_reducible first | exact HB.out | apply below_alloc | apply pw_below_drewN | apply below_drew1) | exact HB.out)) hb); clear HB; have HB := n0_; clear n0_; (try clear hb); (try clear hb2); (try clear hk); (try clear hi)) | ((with_reducible refine gate_callee (f := 19) rfl ?_); refine goesL_ (some 10) rfl rfl Tryd.func19 (by kernel_rfl) rfl #[.slice A0 l0.length c0] rfl (by (try simp only [List.map_toArray, List.map_cons, List.map_nil]); first | done | rfl | (simp only [List.length_drop, List.length_take]; rfl)) ?_; (with_reducible refine (laws_diffTo.calls k _ _ l0 t181 _ ?side1 ?side2 A6.out).mono ?_); (case side1 => repeat (first | exact (Kd.C_below HR0.out HB.out) | (with_reducible refine Kd.C_alloc ?_ _) | (with_reducible refine Kd.C_drewN ?_ _) | (with_reducible refine Kd.C_drew ?_))); (case side2 => exact HC0.out); rintro e w13 ⟨v182, rfl, ho0, hb⟩; refine ⟨_, rfl, ?_⟩; have n0_ := Aside0.mk (Kd.R_lower ho0 (below_size (by repeat (first | (with_reducible first | exact HB.out | apply below_alloc | apply pw_below_drewN | apply below_drew1) | exact HB.out)))); have n1_ := Aside0.mk (below_step (by repeat (first | (with_reducible first | exact HB.out | apply below_alloc | apply pw_below_drewN | apply below_drew1) | exact HB.out)) hb); clear HB; have HO183 := n0_; have HB := n1_; clear n0_ n1_; (try clear hb); (try clear hb2); (try clear hk); (try clear hi); (try clear ho0); obtain ⟨Ao14, co14, eo14⟩ := Kd.R_slice HO183.out; subst eo14) | ((with_reducible refine gate_callee (f := 18) rfl ?_); refine goesL_ (some 11) rfl rfl Tryd.func18 (by kernel_rfl) rfl #[.slice Ao14 t181.length co14] rfl (by (try simp only [List.map_toArray, List.map_cons, List.map_nil]); first | done | rfl | (simp only [List.length_drop, List.length_take]; rfl)) ?_; (with_reducible refine (impl_Levenshtein.calls k _ _ t181 t184 _ ?side1 ?side2 A7.out).mono ?_); (case side1 => repeat (first | exact (Kd.R_reads' HO183.out).2.2 | (with_reducible refine Kd.C_alloc ?_ _) | (with_reducible refine Kd.C_drewN ?_ _) | (with_reducible refine Kd.C_drew ?_))); (case side2 => exact (Kd.R_reads' HO183.out).2.1); rintro e w15 ⟨rfl, hb⟩; refine ⟨_, rfl, ?_⟩; have n0_ := Aside0.mk (Kd.R_below (by (with_reducible repeat (first | apply Kd.R_alloc | apply Kd.R_drewN | apply Kd.R_drew)); exact HO183.out) hb); have n1_ := Aside0.mk (below_step (by repeat (first | (with_reducible first | exact HB.out | apply below_alloc | apply pw_below_drewN | apply below_drew1) | exact HB.out)) hb); clear HO183; clear HB; have HO183 := n0_; have HB := n1_; clear n0_ n1_; (try clear hb); (try clear hb2); (try clear hk); (try clear hi)) | ((with_reducible refine gate_callee (f := 20) rfl ?_); refine goesL_ (some 13) rfl rfl Tryd.func20 (by kernel_rfl) rfl #[.slice A0 l0.length c0] rfl (by (try simp only [List.map_toArray, List.map_cons, List.map_nil]); first | done | rfl | (simp only [List.length_drop, List.length_take]; rfl)) ?_; (with_reducible refine (spec_DiffDistance.calls k _ _ l0 t185 _ ?side1 ?side2 A8.out).mono ?_); (case side1 => repeat (first | exact (Kd.C_below HR0.out HB.out) | (with_reducible refine Kd.C_alloc ?_ _) | (with_reducible refine Kd.C_drewN ?_ _) | (with_reducible refine Kd.C_drew ?_))); (case side2 => exact HC0.out); rintro e w16 ⟨rfl, hb⟩; refine ⟨_, rfl, ?_⟩; have n0_ := Aside0.mk (Kd.R_below (by (with_reducible repeat (first | apply Kd.R_alloc | apply Kd.R_drewN | apply Kd.R_drew)); exact HO183.out) hb); have n1_ := Aside0.mk (below_step (by repeat (first | (with_reducible first | exact HB.out | apply below_alloc | apply pw_below_drewN | apply below_drew1) | exact HB.out)) hb); clear HO183; clear HB; have HO183 := n0_; have HB := n1_; clear n0_ n1_; (try clear hb); (try clear hb2); (try clear hk); (try clear hi)) | ((with_reducible refine gate_dst (N := 17) rfl ?_); (try (refine gate_guard (by rfl) ?_; dsimp only)); refine Kd.R_lit k33 _ 33 ?hg (N := 17) ?hd (xs := ([(⟨1, (⟨#[97, 98]⟩ : ByteArray)⟩ : S33)] : List (S33))) (inner := [.int .i64 1, .string (⟨#[97, 98]⟩ : ByteArray)]) (ok := fun _ => True) (okp := fun _ => True) ?hr ?hp (fun _ hk => hk) trivial (Below.refl _ _) (Nat.le_refl _) (by simp) ?_; (case hd => rfl); (case hg => rfl); (case hr => first | (go_simp; done) | (go_simp; rfl)); (case hp => exact (Reps.c2 (show Kd.M k33 _ _ _ (⟨1, (⟨#[97, 98]⟩ : ByteArray)⟩ : S33) [.int .i64 1, .string (⟨#[97, 98]⟩ : ByteArray)] from (k33_mkM _ _ _ (⟨1, (⟨#[97, 98]⟩ : ByteArray)⟩ : S33) )) (Reps.none _ _))); intro v187 w17 ho18 hb hg_ hnew_; clear hg_ hnew_; (first | rw [← Ny186.out] at ho18 | (simp only [Int.reduceToNat] at ho18; rw [← Ny186.out] at ho18)); have n0_ := Aside0.mk (Kd.R_elder' (by (with_reducible repeat (first | apply Kd.R_alloc | apply Kd.R_drewN | apply Kd.R_drew)); exact HO183.out) (Kd.R_base ho18) hb); have n1_ := Aside0.mk (Kd.R_lower (Kd.R_new' ho18 (Kd.R_lt (by (with_reducible repeat (first | apply Kd.R_alloc | apply Kd.R_drewN | apply Kd.R_drew)); exact HO183.out))) (below_size (by repeat (first | (with_reducible first | exact HB.out | apply below_alloc | apply pw_below_drewN | apply below_drew1) | exact HB.out)))); have n2_ := Aside0.mk (below_step (by repeat (first | (with_reducible first | exact HB.out | apply below_alloc | apply pw_below_drewN | apply below_drew1) | exact HB.out)) hb); clear HO183; clear HB; have HO183 := n0_; have HO188 := n1_; have HB := n2_; clear n0_ n1_ n2_; clear hb ho18; obtain ⟨Ao19, co19, eo19⟩ := Kd.R_slice HO188.out; subst eo19) | (go_at_call 18; (with_reducible refine (impl_Levenshtein.calls k _ _ y186 t189 _ ?side1 ?side2 A10.out).mono ?_); (case side1 => repeat (first | exact (Kd.R_reads' HO188.out).2.2 | (with_reducible refine Kd.C_alloc ?_ _) | (with_reducible refine Kd.C_drewN ?_ _) | (with_reducible refine Kd.C_drew ?_))); (case side2 => exact (Kd.R_reads' HO188.out).2.1); rintro e w20 ⟨rfl, hb⟩; have n0_ := Aside0.mk (Kd.R_below (by (with_reducible repeat (first | apply Kd.R_alloc | apply Kd.R_drewN | apply Kd.R_drew)); exact HO183.out) hb); have n1_ := Aside0.mk (Kd.R_below (by (with_reducible repeat (first | apply Kd.R_alloc | apply Kd.R_drewN | apply Kd.R_drew)); exact HO188.out) hb); have n2_ := Aside0.mk (below_step (by repeat (first | (with_reducible first | exact HB.out | apply below_alloc | apply pw_below_drewN | apply below_drew1) | exact HB.out)) hb); clear HO183; clear HO188; clear HB; have HO183 := n0_; have HO188 := n1_; have HB := n2_; clear n0_ n1_ n2_; (try clear hb); (try clear hb2); (try clear hk); (try clear hi)))
        go_ret
        exact ⟨by first | rfl | (simp [errW_none, errW_some] <;> rfl) | (simp [*, errW_none, errW_some] <;> rfl), by repeat (first | (with_reducible first | exact HB.out | apply below_alloc | apply pw_below_drewN | apply below_drew1) | exact HB.out)⟩
      · rw [if_neg c9] at H
        have c9b0 : (t184 == t185) = false := beq_eq_false_iff_ne.mpr c9
        have c9b1 : (t184 != t185) = true := bne_iff_ne.mpr c9
        obtain rfl := Option.some.inj H
        go_enter Tryd.func4, Tryd.ntmps4
        go_wp2_with (first | ((with_reducible refine gate_callee (f := 16) rfl ?_); refine goesL_ (some 4) rfl rfl Tryd.func16 (by kernel_rfl) rfl #[.slice A0 l0.length c0] rfl (by (try simp only [List.map_toArray, List.map_cons, List.map_nil]); first | done | rfl | (simp only [List.length_drop, List.length_take]; rfl)) ?_; (with_reducible refine (laws_zzFits1.calls k _ _ l0 true _ ?side1 ?side2 A2.out).mono ?_); (case side1 => repeat (first | exact HR0.out | (with_reducible refine Kd.C_alloc ?_ _) | (with_reducible refine Kd.C_drewN ?_ _) | (with_reducible refine Kd.C_drew ?_))); (case side2 => exact HC0.out); rintro e w21 ⟨rfl, hb⟩; refine ⟨_, rfl, ?_⟩; have n0_ := Aside0.mk (below_step (by repeat (first | (with_reducible first | exact HB.out | apply below_alloc | apply pw_below_drewN | apply below_drew1) | exact HB.out)) hb); clear HB; have HB := n0_; clear n0_; (try clear hb); (try clear hb2); (try clear hk); (try clear hi)) | ((with_reducible refine gate_callee (f := 17) rfl ?_); refine goesL_ (some 7) rfl rfl Tryd.func17 (by kernel_rfl) rfl #[.slice A0 l0.length c0] rfl (by (try simp only [List.map_toArray, List.map_cons, List.map_nil]); first | done | rfl | (simp only [List.length_drop, List.length_take]; rfl)) ?_; (with_reducible refine (spec_IsDiffs.calls k _ _ l0 true _ ?side1 ?side2 ?side3 A4.out).mono ?_); (case side1 => exact Glob.below hG_ (by repeat (first | (with_reducible first | exact HB.out | apply below_alloc | apply pw_below_drewN | apply below_drew1) | exact HB.out))); (case side2 => repeat (first | exact (Kd.C_below HR0.out HB.out) | (with_reducible refine Kd.C_alloc ?_ _) | (with_reducible refine Kd.C_drewN ?_ _) | (with_reducible refine Kd.C_drew ?_))); (case side3 => exact HC0.out); rintro e w22 ⟨rfl, hb⟩; refine ⟨_, rfl, ?_⟩; have n0_ := Aside0.mk (below_step (by repeat (first | (with_reducible first | exact HB.out | apply below_alloc | apply pw_below_drewN | apply below_drew1) | exact HB.out)) hb); clear HB; have HB := n0_; clear n0_; (try clear hb); (try clear hb2); (try clear hk); (try clear hi)) | ((with_reducible refine gate_callee (f := 19) rfl ?_); refine goesL_ (some 10) rfl rfl Tryd.func19 (by kernel_rfl) rfl #[.slice A0 l0.length c0] rfl (by (try simp only [List.map_toArray, List.map_cons, List.map_nil]); first | done | rfl | (simp only [List.length_drop, List.length_take]; rfl)) ?_; (with_reducible refine (laws_diffTo.calls k _ _ l0 t181 _ ?side1 ?side2 A6.out).mono ?_); (case side1 => repeat (first | exact (Kd.C_below HR0.out HB.out) | (with_reducible refine Kd.C_alloc ?_ _) | (with_reducible refine Kd.C_drewN ?_ _) | (with_reducible refine Kd.C_drew ?_))); (case side2 => exact HC0.out); rintro e w23 ⟨v182, rfl, ho0, hb⟩; refine ⟨_, rfl, ?_⟩; have n0_ := Aside0.mk (Kd.R_lower ho0 (below_size (by repeat (first | (with_reducible first | exact HB.out | apply below_alloc | apply pw_below_drewN | apply below_drew1) | exact HB.out)))); have n1_ := Aside0.mk (below_step (by repeat (first | (with_reducible first | exact HB.out | apply below_alloc | apply pw_below_drewN | apply below_drew1) | exact HB.out)) hb); clear HB; have HO183 := n0_; have HB := n1_; clear n0_ n1_; (try clear hb); (try clear hb2); (try clear hk); (try clear hi); (try clear ho0); obtain ⟨Ao24, co24, eo24⟩ := Kd.R_slice HO183.out; subst eo24) | ((with_reducible refine gate_callee (f := 18) rfl ?_); refine goesL_ (some 11) rfl rfl Tryd.func18 (by kernel_rfl) rfl #[.slice Ao24 t181.length co24] rfl (by (try simp only [List.map_toArray, List.map_cons, List.map_nil]); first | done | rfl | (simp only [List.length_drop, List.length_take]; rfl)) ?_; (with_reducible refine (impl_Levenshtein.calls k _ _ t181 t184 _ ?side1 ?side2 A7.out).mono ?_); (case side1 => repeat (first | exact (Kd.R_reads' HO183.out).2.2 | (with_reducible refine Kd.C_alloc ?_ _) | (with_reducible refine Kd.C_drewN ?_ _) | (with_reducible refine Kd.C_drew ?_))); (case side2 => exact (Kd.R_reads' HO183.out).2.1); rintro e w25 ⟨rfl, hb⟩; refine ⟨_, rfl, ?_⟩; have n0_ := Aside0.mk (Kd.R_below (by (with_reducible repeat (first | apply Kd.R_alloc | apply Kd.R_drewN | apply Kd.R_drew)); exact HO183.out) hb); have n1_ := Aside0.mk (below_step (by repeat (first | (with_reducible first | exact HB.out | apply below_alloc | apply pw_below_drewN | apply below_drew1) | exact HB.out)) hb); clear HO183; clear HB; have HO183 := n0_; have HB := n1_; clear n0_ n1_; (try clear hb); (try clear hb2); (try clear hk); (try clear hi)) | ((with_reducible refine gate_callee (f := 20) rfl ?_); refine goesL_ (some 13) rfl rfl Tryd.func20 (by kernel_rfl) rfl #[.slice A0 l0.length c0] rfl (by (try simp only [List.map_toArray, List.map_cons, List.map_nil]); first | done | rfl | (simp only [List.length_drop, List.length_take]; rfl)) ?_; (with_reducible refine (spec_DiffDistance.calls k _ _ l0 t185 _ ?side1 ?side2 A8.out).mono ?_); (case side1 => repeat (first | exact (Kd.C_below HR0.out HB.out) | (with_reducible refine Kd.C_alloc ?_ _) | (with_reducible refine Kd.C_drewN ?_ _) | (with_reducible refine Kd.C_drew ?_))); (case side2 => exact HC0.out); rintro e w26 ⟨rfl, hb⟩; refine ⟨_, rfl, ?_⟩; have n0_ := Aside0.mk (Kd.R_below (by (with_reducible repeat (first | apply Kd.R_alloc | apply Kd.R_drewN | apply Kd.R_drew)); exact HO183.out) hb); have n1_ := Aside0.mk (below_step (by repeat (first | (with_reducible first | exact HB.out | apply below_alloc | apply pw_below_drewN | apply below_drew1) | exact HB.out)) hb); clear HO183; clear HB; have HO183 := n0_; have HB := n1_; clear n0_ n1_; (try clear hb); (try clear hb2); (try clear hk); (try clear hi)))
        go_ret
        exact ⟨by first | rfl | (simp [errW_none, errW_some] <;> rfl) | (simp [*, errW_none, errW_some] <;> rfl), by repeat (first | (with_reducible first | exact HB.out | apply below_alloc | apply pw_below_drewN | apply below_drew1) | exact HB.out)⟩
    · replace c5 := Bool.eq_false_iff.mpr c5
      subst c5
      have H1 : (some true) = some r := by rw [if_neg (show ¬ (false = true) by decide)] at H; exact H
      clear H
      have H := H1
      clear H1
      obtain rfl := Option.some.inj H
      go_enter Tryd.func4, Tryd.ntmps4
      go_wp2_with (first | ((with_reducible refine gate_callee (f := 16) rfl ?_); refine goesL_ (some 4) rfl rfl Tryd.func16 (by kernel_rfl) rfl #[.slice A0 l0.length c0] rfl (by (try simp only [List.map_toArray, List.map_cons, List.map_nil]); first | done | rfl | (simp only [List.length_drop, List.length_take]; rfl)) ?_; (with_reducible refine (laws_zzFits1.calls k _ _ l0 true _ ?side1 ?side2 A2.out).mono ?_); (case side1 => repeat (first | exact HR0.out | (with_reducible refine Kd.C_alloc ?_ _) | (with_reducible refine Kd.C_drewN ?_ _) | (with_reducible refine Kd.C_drew ?_))); (case side2 => exact HC0.out); rintro e w27 ⟨rfl, hb⟩; refine ⟨_, rfl, ?_⟩; have n0_ := Aside0.mk (below_step (by repeat (first | (with_reducible first | exact HB.out | apply below_alloc | apply pw_below_drewN | apply below_drew1) | exact HB.out)) hb); clear HB; have HB := n0_; clear n0_; (try clear hb); (try clear hb2); (try clear hk); (try clear hi)) | ((with_reducible refine gate_callee (f := 17) rfl ?_); refine goesL_ (some 7) rfl rfl Tryd.func17 (by kernel_rfl) rfl #[.slice A0 l0.length c0] rfl (by (try simp only [List.map_toArray, List.map_cons, List.map_nil]); first | done | rfl | (simp only [List.length_drop, List.length_take]; rfl)) ?_; (with_reducible refine (spec_IsDiffs.calls k _ _ l0 false _ ?side1 ?side2 ?side3 A4.out).mono ?_); (case side1 => exact Glob.below hG_ (by repeat (first | (with_reducible first | exact HB.out | apply below_alloc | apply pw_below_drewN | apply below_drew1) | exact HB.out))); (case side2 => repeat (first | exact (Kd.C_below HR0.out HB.out) | (with_reducible refine Kd.C_alloc ?_ _) | (with_reducible refine Kd.C_drewN ?_ _) | (with_reducible refine Kd.C_drew ?_))); (case side3 => exact HC0.out); rintro e w28 ⟨rfl, hb⟩; refine ⟨_, rfl, ?_⟩; have n0_ := Aside0.mk (below_step (by repeat (first | (with_reducible first | exact HB.out | apply below_alloc | apply pw_below_drewN | apply below_drew1) | exact HB.out)) hb); clear HB; have HB := n0_; clear n0_; (try clear hb); (try clear hb2); (try clear hk); (try clear hi)))
      go_ret
      exact ⟨by first | rfl | (simp [errW_none, errW_some] <;> rfl) | (simp [*, errW_none, errW_some] <;> rfl), by repeat (first | (with_reducible first | exact HB.out | apply below_alloc | apply pw_below_drewN | apply below_drew1) | exact HB.out)⟩
  · replace c3 := Bool.eq_false_iff.mpr c3
    subst c3
    have H1 : (some true) = some r := by rw [if_neg (show ¬ (false = true) by decide)] at H; exact H
    clear H
    have H := H1
    clear H1
    obtain rfl := Option.some.inj H
    go_enter Tryd.func4, Tryd.ntmps4
    go_wp2_with (first | ((with_reducible refine gate_callee (f := 16) rfl ?_); refine goesL_ (some 4) rfl rfl Tryd.func16 (by kernel_rfl) rfl #[.slice A0 l0.length c0] rfl (by (try simp only [List.map_toArray, List.map_cons, List.map_nil]); first | done | rfl | (simp only [List.length_drop, List.length_take]; rfl)) ?_; (with_reducible refine (laws_zzFits1.calls k _ _ l0 false _ ?side1 ?side2 A2.out).mono ?_); (case side1 => repeat (first | exact HR0.out | (with_reducible refine Kd.C_alloc ?_ _) | (with_reducible refine Kd.C_drewN ?_ _) | (with_reducible refine Kd.C_drew ?_))); (case side2 => exact HC0.out); rintro e w29 ⟨rfl, hb⟩; refine ⟨_, rfl, ?_⟩; have n0_ := Aside0.mk (below_step (by repeat (first | (with_reducible first | exact HB.out | apply below_alloc | apply pw_below_drewN | apply below_drew1) | exact HB.out)) hb); clear HB; have HB := n0_; clear n0_; (try clear hb); (try clear hb2); (try clear hk); (try clear hi)))
    go_ret
    exact ⟨by first | rfl | (simp [errW_none, errW_some] <;> rfl) | (simp [*, errW_none, errW_some] <;> rfl), by repeat (first | (with_reducible first | exact HB.out | apply below_alloc | apply pw_below_drewN | apply below_drew1) | exact HB.out)⟩

end Go.Proofs.YtmdgnglgabnhnaaDoor.P
