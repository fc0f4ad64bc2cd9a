-- Written by a program of this session (wip/tools): the printer's text for functions of the seat YtaabfadjemmibaaDoor. Not trusted: Lean checks it.
import Derived.Test.YtaabfadjemmibaaDoorPx0
namespace Go.Proofs.YtaabfadjemmibaaDoor.P
open Go.RowKit Go.Proofs.YtaabfadjemmibaaDoorW.PrintWords Go.Proofs.YtaabfadjemmibaaDoorW.PrintLast Go.Proofs.YtaabfadjemmibaaDoorW.PrintMore
attribute [local go_sem] max2_int min2_int max_two min_two max_three min_three max_four min_four   -- for this text's walks alone
open Go.Proofs.YtaabfadjemmibaaDoorX
set_option linter.unusedVariables false
set_option linter.unusedSimpArgs false
/-! ### laws_zzFits4: function 32 -/
def laws_zzFits4.f (a0_0 : Int) (a0_1 : ByteArray) : Option (Bool) := if (a0_1.size : Int) > 2147483647 then (some false) else (some true)
set_option maxHeartbeats 8000000 in
set_option maxRecDepth 100000 in
theorem laws_zzFits4.calls (a0_0 : Int) (a0_1 : ByteArray) (r : Bool) (w : World) (h : laws_zzFits4.f a0_0 a0_1 = some r) :
  Calls Tryd.prog 32 #[.agg #[.int .i64 a0_0, .string a0_1]] w fun e w' => e = .returned (.bool r) ∧ Below w.heap.size w w' := by
 have hu26 := Tryd.underlying26
 have HB := Aside0.mk (Below.refl w.heap.size w)
 have H : (if (a0_1.size : Int) > 2147483647 then (some false) else (some true)) = some r := h
 clear h
 by_cases c2 : (a0_1.size : Int) > 2147483647
 ·rw [if_pos c2] at H
  have c2b0 : decide (2147483647 < (a0_1.size : Int)) = true := decide_eq_true c2
  have c2b1 : decide (2147483647 < a0_1.size) = true := decide_eq_true (by omega)
  clear c2
  obtain rfl := Option.some.inj H
  go_enter Tryd.func32, Tryd.ntmps32
  go_wp2_with (first | ((with_reducible refine gate_dst (N := 1) rfl ?_); refine box_event ?hg (N := 1) ?hd (cs := #[.int .i64 a0_0, .string a0_1]) (t := 26) ?hr ?_; (case hd => rfl); (case hg => rfl); (case hr => first | (go_simp; done) | (go_simp; rfl)); intro gb101 hg w3 hbox hb; have n0_ := Aside0.mk (below_step (by repeat (first | (with_reducible first | exact HB.out | apply below_alloc | apply pw_below_drewN | apply below_drew1) | exact HB.out)) hb); have n1_ := Aside0.mk (hbox); have n2_ := Aside0.mk ((by rw [hg]; exact (below_size (by repeat (first | (with_reducible first | exact HB.out | apply below_alloc | apply pw_below_drewN | apply below_drew1) | exact HB.out))) : w.heap.size ≤ gb101)); have n3_ := Aside0.mk ((by rw [hg]; exact (below_size (by repeat (first | (with_reducible first | exact HB.out | apply below_alloc | apply pw_below_drewN | apply below_drew1) | exact HB.out))) : w.heap.size ≤ gb101)); clear HB; have HB := n0_; have BK101 := n1_; have GW101 := n2_; have GE101 := n3_; clear n0_ n1_ n2_ n3_; clear hb hbox hg; have hcz4_0 : w3.cell? ⟨gb101, 0, none⟩ = some (.int .i64 a0_0) := (blk_cell BK101.out 0).trans rfl; have hcz4_1 : w3.cell? ⟨gb101, 1, none⟩ = some (.string a0_1) := (blk_cell BK101.out 1).trans rfl; have hfz4_0 := blk_frozen BK101.out 0; have hfz4_1 := blk_frozen BK101.out 1))
  go_ret
  exact ⟨by first | rfl | (simp [errW_none, errW_some] <;> rfl) | (simp [*, errW_none, errW_some] <;> rfl), by repeat (first | (with_reducible first | exact HB.out | apply below_alloc | apply pw_below_drewN | apply below_drew1 | refine below_set ?_ GE101.out) | exact HB.out)⟩
 rw [if_neg c2] at H
 have c2b0 : decide (2147483647 < (a0_1.size : Int)) = false := decide_eq_false c2
 have c2b1 : decide (2147483647 < a0_1.size) = false := decide_eq_false (by omega)
 clear c2
 obtain rfl := Option.some.inj H
 go_enter Tryd.func32, Tryd.ntmps32
 go_wp2_with (first | ((with_reducible refine gate_dst (N := 1) rfl ?_); refine box_event ?hg (N := 1) ?hd (cs := #[.int .i64 a0_0, .string a0_1]) (t := 26) ?hr ?_; (case hd => rfl); (case hg => rfl); (case hr => first | (go_simp; done) | (go_simp; rfl)); intro gb101 hg w5 hbox hb; have n0_ := Aside0.mk (below_step (by repeat (first | (with_reducible first | exact HB.out | apply below_alloc | apply pw_below_drewN | apply below_drew1) | exact HB.out)) hb); have n1_ := Aside0.mk (hbox); have n2_ := Aside0.mk ((by rw [hg]; exact (below_size (by repeat (first | (with_reducible first | exact HB.out | apply below_alloc | apply pw_below_drewN | apply below_drew1) | exact HB.out))) : w.heap.size ≤ gb101)); have n3_ := Aside0.mk ((by rw [hg]; exact (below_size (by repeat (first | (with_reducible first | exact HB.out | apply below_alloc | apply pw_below_drewN | apply below_drew1) | exact HB.out))) : w.heap.size ≤ gb101)); clear HB; have HB := n0_; have BK101 := n1_; have GW101 := n2_; have GE101 := n3_; clear n0_ n1_ n2_ n3_; clear hb hbox hg; have hcz6_0 : w5.cell? ⟨gb101, 0, none⟩ = some (.int .i64 a0_0) := (blk_cell BK101.out 0).trans rfl; have hcz6_1 : w5.cell? ⟨gb101, 1, none⟩ = some (.string a0_1) := (blk_cell BK101.out 1).trans rfl; have hfz6_0 := blk_frozen BK101.out 0; have hfz6_1 := blk_frozen BK101.out 1))
 go_ret
 exact ⟨by first | rfl | (simp [errW_none, errW_some] <;> rfl) | (simp [*, errW_none, errW_some] <;> rfl), by repeat (first | (with_reducible first | exact HB.out | apply below_alloc | apply pw_below_drewN | apply below_drew1 | refine below_set ?_ GE101.out) | exact HB.out)⟩
/-! ### laws_zzFits3: function 16 -/
def laws_zzFits3.l0 : Nat → List (S26) → Int → Int → Option (Bool)
 | 0, _, _, _ => none
 | k + 1, x8, x9, x10 => if x10 < x9 then (if 0 ≤ x10 then (if x10 < (x8.length : Int) then ((laws_zzFits4.f ((rd_T26 x8 x10).f0) ((rd_T26 x8 x10).f1)).bind fun t104 => (if t104 = true then (laws_zzFits3.l0 k x8 x9 (wrap64 (x10 + 1))) else (some false))) else (none)) else (none)) else (some true)
def laws_zzFits3.f (k : Nat) (l0 : List (S26)) : Option (Bool) := if (l0.length : Int) > 2147483647 then (some false) else (laws_zzFits3.l0 k l0 (l0.length : Int) 0)
theorem laws_zzFits3.mono_l : ∀ k, (∀ y0 y1 y2, LeO (laws_zzFits3.l0 k y0 y1 y2) (laws_zzFits3.l0 (k + 1) y0 y1 y2))
 | 0 => fun _ _ _ r h => by simp [laws_zzFits3.l0] at h
 | k + 1 => by
  have ih0 := laws_zzFits3.mono_l k
  ·intro y0 y1 y2
   unfold laws_zzFits3.l0
   repeat' first
   | (with_reducible exact ih0 _ _ _)
   | (with_reducible exact LeO.refl _)
   | (with_reducible exact LeO.none _)
   | (with_reducible refine LeO.ite ?_ ?_)
   | (with_reducible refine LeO.bind ?_ (fun _ => ?_))
   | exact ih0 _ _ _
   | exact LeO.none _
   | refine LeO.ite ?_ ?_
   | refine LeO.bind ?_ (fun _ => ?_)
theorem laws_zzFits3.mono : ∀ a0 k, LeO (laws_zzFits3.f k a0) (laws_zzFits3.f (k + 1) a0) := by
 intro a0 k
 have ih0 := laws_zzFits3.mono_l k
 unfold laws_zzFits3.f
 repeat' first
   | (with_reducible exact ih0 _ _ _)
   | (with_reducible exact LeO.refl _)
   | (with_reducible exact LeO.none _)
   | (with_reducible refine LeO.ite ?_ ?_)
   | (with_reducible refine LeO.bind ?_ (fun _ => ?_))
   | exact ih0 _ _ _
   | exact LeO.none _
   | refine LeO.ite ?_ ?_
   | refine LeO.bind ?_ (fun _ => ?_)
set_option maxHeartbeats 8000000 in
set_option maxRecDepth 100000 in
theorem laws_zzFits3.calls (k : Nat) (A0 : Option Addr) (c0 : Nat) (l0 : List (S26)) (r : Bool) (w : World) (hr0 : Kd.C k26 w A0 l0.length l0) (hc0 : l0.length ≤ c0) (h : laws_zzFits3.f k l0 = some r) :
  Calls Tryd.prog 16 #[.slice A0 l0.length c0] w fun e w' => e = .returned (.bool r) ∧ Below w.heap.size w w' := by
 have hu26 := Tryd.underlying26
 have HR0 := Aside0.mk hr0
 have HC0 := Aside0.mk hc0
 clear hr0 hc0
 have HB := Aside0.mk (Below.refl w.heap.size w)
 have H : (if (l0.length : Int) > 2147483647 then (some false) else (laws_zzFits3.l0 k l0 (l0.length : Int) 0)) = some r := h
 clear h
 by_cases c2 : (l0.length : Int) > 2147483647
 ·rw [if_pos c2] at H
  have c2b0 : decide (2147483647 < (l0.length : Int)) = true := decide_eq_true c2
  have c2b1 : decide (2147483647 < l0.length) = true := decide_eq_true (by omega)
  clear c2
  obtain rfl := Option.some.inj H
  go_enter Tryd.func16, Tryd.ntmps16
  go_wp2
  go_ret
  exact ⟨by first | rfl | (simp [errW_none, errW_some] <;> rfl) | (simp [*, errW_none, errW_some] <;> rfl), by repeat (first | (with_reducible first | exact HB.out | apply below_alloc | apply pw_below_drewN | apply below_drew1) | exact HB.out)⟩
 rw [if_neg c2] at H
 have c2b0 : decide (2147483647 < (l0.length : Int)) = false := decide_eq_false c2
 have c2b1 : decide (2147483647 < l0.length) = false := decide_eq_false (by omega)
 clear c2
 have H' := Aside0.mk H
 clear H
 go_enter Tryd.func16, Tryd.ntmps16
 go_wp2
 go_loopg [10] k (fun kq v10 w' => ∃ (x10_1 : Int), v10 = .int .i64 x10_1 ∧ Aside0 (laws_zzFits3.l0 kq l0 (l0.length : Int) x10_1 = some r) ∧ Aside0 (kq ≤ k) ∧ Aside0 (Below w.heap.size w w'))
 case atStart => exact ⟨(0), (by first | rfl | (simp; done) | (simp [*]; done)), H', ⟨Nat.le_refl _⟩, ⟨by repeat (first | (with_reducible first | exact HB.out | apply below_alloc | apply pw_below_drewN | apply below_drew1) | exact HB.out)⟩⟩
 case round =>
  clear H'
  try clear c1
  try clear c2
  try clear c2b0
  try clear c2b1
  try clear p2
  obtain ⟨x10_1, rfl, HA, HK1, HB⟩ := hrel
  cases gk with
  | zero => exact absurd HA.out (by simp [laws_zzFits3.l0])
  | succ k1 =>
   have H := HA.out
   clear HA
   simp only [laws_zzFits3.l0] at H
   by_cases c3 : x10_1 < (l0.length : Int)
   case neg =>
    rw [if_neg c3] at H
    have c3b0 : decide (x10_1 < (l0.length : Int)) = false := decide_eq_false c3
    clear c3
    obtain rfl := Option.some.inj H
    go_wp2
    go_ret
    exact ⟨by first | rfl | (simp [errW_none, errW_some] <;> rfl) | (simp [*, errW_none, errW_some] <;> rfl), by repeat (first | (with_reducible first | exact HB.out | apply below_alloc | apply pw_below_drewN | apply below_drew1) | exact HB.out)⟩
   rw [if_pos c3] at H
   have c3b0 : decide (x10_1 < (l0.length : Int)) = true := decide_eq_true c3
   clear c3
   by_cases c4 : 0 ≤ x10_1
   case neg =>
    rw [if_neg c4] at H
    exact absurd H (by simp)
   rw [if_pos c4] at H
   have c4b0 : decide (0 ≤ x10_1) = true := decide_eq_true c4
   clear c4
   by_cases c5 : x10_1 < (l0.length : Int)
   case neg =>
    rw [if_neg c5] at H
    exact absurd H (by simp)
   rw [if_pos c5] at H
   have c5b0 : decide (x10_1 < (l0.length : Int)) = true := decide_eq_true c5
   clear c5
   replace H := Option.bind_eq_some_iff.mp H
   obtain ⟨t104, A60, H⟩ := H
   replace H : (if t104 = true then (laws_zzFits3.l0 k1 l0 (l0.length : Int) (wrap64 (x10_1 + 1))) else (some false)) = some r := H
   have A6 := Aside0.mk A60
   clear A60
   by_cases c7 : t104 = true
   case neg =>
    replace c7 := Bool.eq_false_iff.mpr c7
    subst c7
    have H1 : (some false) = some r := by rw [if_neg (show ¬ (false = true) by decide)] at H; exact H
    clear H
    have H := H1
    clear H1
    obtain rfl := Option.some.inj H
    have p102 : 0 ≤ (x10_1 : Int) := of_decide_eq_true (by first | (with_reducible assumption) | assumption)
    have q102 : x10_1 < (l0.length : Int) := of_decide_eq_true (by first | (with_reducible assumption) | assumption)
    obtain ⟨ad102, e102, hx102_0, hx102_1⟩ := at_T26 HR0.out x10_1 p102 q102
    cases e102
    replace hx102_0 := (HB.out.cell (World.block_lt_of_cell? w _ hx102_0)).trans hx102_0
    replace hx102_1 := (HB.out.cell (World.block_lt_of_cell? w _ hx102_1)).trans hx102_1
    replace p102 := eq_true p102
    replace q102 := eq_true q102
    go_wp2_with (first | ((with_reducible refine gate_dst (N := 4) rfl ?_); refine box_event ?hg (N := 4) ?hd (cs := #[.int .i64 0, .string (⟨#[]⟩ : ByteArray)]) (t := 26) ?hr ?_; (case hd => rfl); (case hg => rfl); (case hr => first | (go_simp; done) | (go_simp; rfl)); intro gb103 hg w11 hbox hb; have n0_ := Aside0.mk (below_step (by repeat (first | (with_reducible first | exact HB.out | apply below_alloc | apply pw_below_drewN | apply below_drew1) | exact HB.out)) hb); have n1_ := Aside0.mk (hbox); have n2_ := Aside0.mk ((by rw [hg]; exact (below_size (by repeat (first | (with_reducible first | exact HB.out | apply below_alloc | apply pw_below_drewN | apply below_drew1) | exact HB.out))) : w.heap.size ≤ gb103)); have n3_ := Aside0.mk ((by rw [hg]; exact (below_size (by repeat (first | (with_reducible first | exact HB.out | apply below_alloc | apply pw_below_drewN | apply below_drew1) | exact HB.out))) : w.heap.size ≤ gb103)); clear HB; have HB := n0_; have BK103 := n1_; have GW103 := n2_; have GE103 := n3_; clear n0_ n1_ n2_ n3_; clear hb hbox hg; have hcz12_0 : w11.cell? ⟨gb103, 0, none⟩ = some (.int .i64 0) := (blk_cell BK103.out 0).trans rfl; have hcz12_1 : w11.cell? ⟨gb103, 1, none⟩ = some (.string (⟨#[]⟩ : ByteArray)) := (blk_cell BK103.out 1).trans rfl; have hfz12_0 := blk_frozen BK103.out 0; have hfz12_1 := blk_frozen BK103.out 1) | ((with_reducible refine gate_callee (f := 32) rfl ?_); refine goesL_ (some 15) rfl rfl Tryd.func32 (by kernel_rfl) rfl #[.agg #[.int .i64 ((rd_T26 l0 x10_1).f0), .string ((rd_T26 l0 x10_1).f1)]] rfl (by (try simp only [List.map_toArray, List.map_cons, List.map_nil]); first | done | rfl | (simp only [List.length_drop, List.length_take]; rfl)) ?_; (with_reducible refine (laws_zzFits4.calls ((rd_T26 l0 x10_1).f0) ((rd_T26 l0 x10_1).f1) false _ A6.out).mono ?_); rintro e w13 ⟨rfl, hb⟩; refine ⟨_, rfl, ?_⟩; have n0_ := Aside0.mk (blk_below (g := gb103) (o := .cells #[.int .i64 ((rd_T26 l0 x10_1).f0), .string ((rd_T26 l0 x10_1).f1)] 26 (0, 0)) (by (with_reducible repeat (first | refine blk_drewN ?_ _ | refine blk_drew ?_ | refine blk_alloc ?_ _)); refine blk_put (cs := #[.int .i64 ((rd_T26 l0 x10_1).f0), .string (⟨#[]⟩ : ByteArray)]) ?_ 1 _ rfl; (with_reducible repeat (first | refine blk_drewN ?_ _ | refine blk_drew ?_ | refine blk_alloc ?_ _)); refine blk_put (cs := #[.int .i64 0, .string (⟨#[]⟩ : ByteArray)]) ?_ 0 _ rfl; (with_reducible repeat (first | refine blk_drewN ?_ _ | refine blk_drew ?_ | refine blk_alloc ?_ _)); exact BK103.out) hb); have n1_ := Aside0.mk (below_step (by repeat (first | (with_reducible first | exact HB.out | apply below_alloc | apply pw_below_drewN | apply below_drew1 | refine below_set ?_ GE103.out) | exact HB.out)) hb); clear BK103; clear HB; have BK103 := n0_; have HB := n1_; clear n0_ n1_; (try clear hb); (try clear hb2); (try clear hk); (try clear hi)))
    go_ret
    exact ⟨by first | rfl | (simp [errW_none, errW_some] <;> rfl) | (simp [*, errW_none, errW_some] <;> rfl), by repeat (first | (with_reducible first | exact HB.out | apply below_alloc | apply pw_below_drewN | apply below_drew1 | refine below_set ?_ GE103.out) | exact HB.out)⟩
   subst c7
   have H1 : (laws_zzFits3.l0 k1 l0 (l0.length : Int) (wrap64 (x10_1 + 1))) = some r := by rw [if_pos rfl] at H; exact H
   clear H
   have H := H1
   clear H1
   have H' := Aside0.mk H
   clear H
   have p102 : 0 ≤ (x10_1 : Int) := of_decide_eq_true (by first | (with_reducible assumption) | assumption)
   have q102 : x10_1 < (l0.length : Int) := of_decide_eq_true (by first | (with_reducible assumption) | assumption)
   obtain ⟨ad102, e102, hx102_0, hx102_1⟩ := at_T26 HR0.out x10_1 p102 q102
   cases e102
   replace hx102_0 := (HB.out.cell (World.block_lt_of_cell? w _ hx102_0)).trans hx102_0
   replace hx102_1 := (HB.out.cell (World.block_lt_of_cell? w _ hx102_1)).trans hx102_1
   replace p102 := eq_true p102
   replace q102 := eq_true q102
   go_wp2_with (first | ((with_reducible refine gate_dst (N := 4) rfl ?_); refine box_event ?hg (N := 4) ?hd (cs := #[.int .i64 0, .string (⟨#[]⟩ : ByteArray)]) (t := 26) ?hr ?_; (case hd => rfl); (case hg => rfl); (case hr => first | (go_simp; done) | (go_simp; rfl)); intro gb103 hg w8 hbox hb; have n0_ := Aside0.mk (below_step (by repeat (first | (with_reducible first | exact HB.out | apply below_alloc | apply pw_below_drewN | apply below_drew1) | exact HB.out)) hb); have n1_ := Aside0.mk (hbox); have n2_ := Aside0.mk ((by rw [hg]; exact (below_size (by repeat (first | (with_reducible first | exact HB.out | apply below_alloc | apply pw_below_drewN | apply below_drew1) | exact HB.out))) : w.heap.size ≤ gb103)); have n3_ := Aside0.mk ((by rw [hg]; exact (below_size (by repeat (first | (with_reducible first | exact HB.out | apply below_alloc | apply pw_below_drewN | apply below_drew1) | exact HB.out))) : w.heap.size ≤ gb103)); clear HB; have HB := n0_; have BK103 := n1_; have GW103 := n2_; have GE103 := n3_; clear n0_ n1_ n2_ n3_; clear hb hbox hg; have hcz9_0 : w8.cell? ⟨gb103, 0, none⟩ = some (.int .i64 0) := (blk_cell BK103.out 0).trans rfl; have hcz9_1 : w8.cell? ⟨gb103, 1, none⟩ = some (.string (⟨#[]⟩ : ByteArray)) := (blk_cell BK103.out 1).trans rfl; have hfz9_0 := blk_frozen BK103.out 0; have hfz9_1 := blk_frozen BK103.out 1) | ((with_reducible refine gate_callee (f := 32) rfl ?_); refine goesL_ (some 15) rfl rfl Tryd.func32 (by kernel_rfl) rfl #[.agg #[.int .i64 ((rd_T26 l0 x10_1).f0), .string ((rd_T26 l0 x10_1).f1)]] rfl (by (try simp only [List.map_toArray, List.map_cons, List.map_nil]); first | done | rfl | (simp only [List.length_drop, List.length_take]; rfl)) ?_; (with_reducible refine (laws_zzFits4.calls ((rd_T26 l0 x10_1).f0) ((rd_T26 l0 x10_1).f1) true _ A6.out).mono ?_); rintro e w10 ⟨rfl, hb⟩; refine ⟨_, rfl, ?_⟩; have n0_ := Aside0.mk (blk_below (g := gb103) (o := .cells #[.int .i64 ((rd_T26 l0 x10_1).f0), .string ((rd_T26 l0 x10_1).f1)] 26 (0, 0)) (by (with_reducible repeat (first | refine blk_drewN ?_ _ | refine blk_drew ?_ | refine blk_alloc ?_ _)); refine blk_put (cs := #[.int .i64 ((rd_T26 l0 x10_1).f0), .string (⟨#[]⟩ : ByteArray)]) ?_ 1 _ rfl; (with_reducible repeat (first | refine blk_drewN ?_ _ | refine blk_drew ?_ | refine blk_alloc ?_ _)); refine blk_put (cs := #[.int .i64 0, .string (⟨#[]⟩ : ByteArray)]) ?_ 0 _ rfl; (with_reducible repeat (first | refine blk_drewN ?_ _ | refine blk_drew ?_ | refine blk_alloc ?_ _)); exact BK103.out) hb); have n1_ := Aside0.mk (below_step (by repeat (first | (with_reducible first | exact HB.out | apply below_alloc | apply pw_below_drewN | apply below_drew1 | refine below_set ?_ GE103.out) | exact HB.out)) hb); clear BK103; clear HB; have BK103 := n0_; have HB := n1_; clear n0_ n1_; (try clear hb); (try clear hb2); (try clear hk); (try clear hi)))
   go_roundg k1
   case measure => have := HK1.out; omega
   case rel => exact ⟨(wrap64 (x10_1 + 1)), (by first | rfl | (simp; done) | (simp [*]; done)), H', ⟨by have := HK1.out; omega⟩, ⟨by repeat (first | (with_reducible first | exact HB.out | apply below_alloc | apply pw_below_drewN | apply below_drew1 | refine below_set ?_ GE103.out) | exact HB.out)⟩⟩
/-! ### laws_cleanOf: function 20 -/
def laws_cleanOf.l0 : Nat → List (S34) → List (S26) → Int → Int → Option ((List (S34)))
 | 0, _, _, _, _ => none
 | k + 1, x3, x6, x7, x8 => if x8 < x7 then (if 0 ≤ x8 then (if x8 < (x6.length : Int) then (if x3.length < 5864062014805 then (laws_cleanOf.l0 k (x3 ++ [(⟨(rd_T26 x6 x8).f0, (rd_T26 x6 x8).f1⟩ : S34)]) x6 x7 (wrap64 (x8 + 1))) else (none)) else (none)) else (none)) else (some x3)
def laws_cleanOf.f (k : Nat) (l0 : List (S26)) : Option ((List (S34))) := laws_cleanOf.l0 k ([] : List (S34)) l0 (l0.length : Int) 0
theorem laws_cleanOf.mono_l : ∀ k, (∀ y0 y1 y2 y3, LeO (laws_cleanOf.l0 k y0 y1 y2 y3) (laws_cleanOf.l0 (k + 1) y0 y1 y2 y3))
 | 0 => fun _ _ _ _ r h => by simp [laws_cleanOf.l0] at h
 | k + 1 => by
  have ih0 := laws_cleanOf.mono_l k
  ·intro y0 y1 y2 y3
   unfold laws_cleanOf.l0
   repeat' first
   | (with_reducible exact ih0 _ _ _ _)
   | (with_reducible exact LeO.refl _)
   | (with_reducible exact LeO.none _)
   | (with_reducible refine LeO.ite ?_ ?_)
   | (with_reducible refine LeO.bind ?_ (fun _ => ?_))
   | exact ih0 _ _ _ _
   | exact LeO.none _
   | refine LeO.ite ?_ ?_
   | refine LeO.bind ?_ (fun _ => ?_)
theorem laws_cleanOf.mono : ∀ a0 k, LeO (laws_cleanOf.f k a0) (laws_cleanOf.f (k + 1) a0) := by
 intro a0 k
 have ih0 := laws_cleanOf.mono_l k
 unfold laws_cleanOf.f
 repeat' first
   | (with_reducible exact ih0 _ _ _ _)
   | (with_reducible exact LeO.refl _)
   | (with_reducible exact LeO.none _)
   | (with_reducible refine LeO.ite ?_ ?_)
   | (with_reducible refine LeO.bind ?_ (fun _ => ?_))
   | exact ih0 _ _ _ _
   | exact LeO.none _
   | refine LeO.ite ?_ ?_
   | refine LeO.bind ?_ (fun _ => ?_)
set_option maxHeartbeats 8000000 in
set_option maxRecDepth 100000 in
theorem laws_cleanOf.calls (k : Nat) (A0 : Option Addr) (c0 : Nat) (l0 : List (S26)) (r : List (S34)) (w : World) (hr0 : Kd.C k26 w A0 l0.length l0) (hc0 : l0.length ≤ c0) (h : laws_cleanOf.f k l0 = some r) :
  Calls Tryd.prog 20 #[.slice A0 l0.length c0] w fun e w' => ∃ v0_ : Value, e = .returned (v0_) ∧ Kd.R k34 34 w' w.heap.size (fun _ => True) v0_ r ∧ Below w.heap.size w w' := by
 have hu26 := Tryd.underlying26
 have HR0 := Aside0.mk hr0
 have HC0 := Aside0.mk hc0
 clear hr0 hc0
 have HB := Aside0.mk (Below.refl w.heap.size w)
 have H : (laws_cleanOf.l0 k ([] : List (S34)) l0 (l0.length : Int) 0) = some r := h
 clear h
 have H' := Aside0.mk H
 clear H
 go_enter Tryd.func20, Tryd.ntmps20
 go_wp2
 go_loopg [3, 8] k (fun kq v3 v8 w' => ∃ (x3_1 : List (S34)) (x8_1 : Int), v8 = .int .i64 x8_1 ∧ Aside0 (laws_cleanOf.l0 kq x3_1 l0 (l0.length : Int) x8_1 = some r) ∧ Aside0 (kq ≤ k) ∧ Aside0 (Kd.R k34 34 w' w.heap.size (fun _ => True) v3 x3_1) ∧ Aside0 (Below w.heap.size w w'))
 case atStart => exact ⟨(([] : List (S34))), (0), (by first | rfl | (simp; done) | (simp [*]; done)), H', ⟨Nat.le_refl _⟩, ⟨by first | exact Kd.R_nil _ _ _ _ _ | exact Kd.N_nil _ _ _ _ _ | exact Kd.V_nil _ _ _ _ _ | exact Kd.Q_nil _ _ _ _ _ | exact Kd.S_nil _ _ _ _ _⟩, ⟨by repeat (first | (with_reducible first | exact HB.out | apply below_alloc | apply pw_below_drewN | apply below_drew1) | exact HB.out)⟩⟩
 case round =>
  clear H'
  obtain ⟨x3_1, x8_1, rfl, HA, HK1, HO_3, HB⟩ := hrel
  cases gk with
  | zero => exact absurd HA.out (by simp [laws_cleanOf.l0])
  | succ k1 =>
   have H := HA.out
   clear HA
   simp only [laws_cleanOf.l0] at H
   by_cases c2 : x8_1 < (l0.length : Int)
   case neg =>
    rw [if_neg c2] at H
    have c2b0 : decide (x8_1 < (l0.length : Int)) = false := decide_eq_false c2
    clear c2
    obtain rfl := Option.some.inj H
    go_wp2
    go_ret
    exact ⟨_, by first | rfl | (simp [errW_none, errW_some] <;> rfl) | (simp [*, errW_none, errW_some] <;> rfl), by (with_reducible repeat (first | apply Kd.R_alloc | apply Kd.R_drewN | apply Kd.R_drew)); exact HO_3.out, by repeat (first | (with_reducible first | exact HB.out | apply below_alloc | apply pw_below_drewN | apply below_drew1) | exact HB.out)⟩
   rw [if_pos c2] at H
   have c2b0 : decide (x8_1 < (l0.length : Int)) = true := decide_eq_true c2
   clear c2
   by_cases c3 : 0 ≤ x8_1
   case neg =>
    rw [if_neg c3] at H
    exact absurd H (by simp)
   rw [if_pos c3] at H
   have c3b0 : decide (0 ≤ x8_1) = true := decide_eq_true c3
   clear c3
   by_cases c4 : x8_1 < (l0.length : Int)
   case neg =>
    rw [if_neg c4] at H
    exact absurd H (by simp)
   rw [if_pos c4] at H
   have c4b0 : decide (x8_1 < (l0.length : Int)) = true := decide_eq_true c4
   clear c4
   by_cases c5 : x3_1.length < 5864062014805
   case neg =>
    rw [if_neg c5] at H
    exact absurd H (by simp)
   rw [if_pos c5] at H
   have LMc5 := Aside0.mk c5
   clear c5
   obtain ⟨y107, hy107⟩ : ∃ y_ : List (S34), y_ = (x3_1 ++ [(⟨(rd_T26 l0 x8_1).f0, (rd_T26 l0 x8_1).f1⟩ : S34)]) := ⟨_, rfl⟩
   replace H : (laws_cleanOf.l0 k1 y107 l0 (l0.length : Int) (wrap64 (x8_1 + 1))) = some r := by first | (rw [hy107]; with_reducible exact H) | (have H2_ := (Option.bind_some _ _).symm.trans H; rw [hy107]; with_reducible exact H2_) | (have H2_ := (Option.bind_some _ _).symm.trans H; with_reducible exact H2_) | with_reducible exact H | (rw [hy107]; exact H) | exact H
   have Ny107 := Aside0.mk hy107
   clear hy107
   have H' := Aside0.mk H
   clear H
   have p105 : 0 ≤ (x8_1 : Int) := of_decide_eq_true (by first | (with_reducible assumption) | assumption)
   have q105 : x8_1 < (l0.length : Int) := of_decide_eq_true (by first | (with_reducible assumption) | assumption)
   obtain ⟨ad105, e105, hx105_0, hx105_1⟩ := at_T26 HR0.out x8_1 p105 q105
   cases e105
   replace hx105_0 := (HB.out.cell (World.block_lt_of_cell? w _ hx105_0)).trans hx105_0
   replace hx105_1 := (HB.out.cell (World.block_lt_of_cell? w _ hx105_1)).trans hx105_1
   replace p105 := eq_true p105
   replace q105 := eq_true q105
   go_wp2_with (first | ((with_reducible refine gate_dst (N := 5) rfl ?_); refine box_event ?hg (N := 5) ?hd (cs := #[.int .i64 0, .string (⟨#[]⟩ : ByteArray)]) (t := 26) ?hr ?_; (case hd => rfl); (case hg => rfl); (case hr => first | (go_simp; done) | (go_simp; rfl)); intro gb106 hg w6 hbox hb; have n0_ := Aside0.mk (Kd.R_below (by (with_reducible repeat (first | apply Kd.R_alloc | apply Kd.R_drewN | apply Kd.R_drew)); exact HO_3.out) hb); have n1_ := Aside0.mk (below_step (by repeat (first | (with_reducible first | exact HB.out | apply below_alloc | apply pw_below_drewN | apply below_drew1) | exact HB.out)) hb); have n2_ := Aside0.mk (hbox); have n3_ := Aside0.mk ((by rw [hg]; exact (below_size (by repeat (first | (with_reducible first | exact HB.out | apply below_alloc | apply pw_below_drewN | apply below_drew1) | exact HB.out))) : w.heap.size ≤ gb106)); have n4_ := Aside0.mk ((by rw [hg]; exact (below_size (by repeat (first | (with_reducible first | exact HB.out | apply below_alloc | apply pw_below_drewN | apply below_drew1) | exact HB.out))) : w.heap.size ≤ gb106)); clear HO_3; clear HB; have HO_3 := n0_; have HB := n1_; have BK106 := n2_; have GW106 := n3_; have GE106 := n4_; clear n0_ n1_ n2_ n3_ n4_; clear hb hbox hg; have hcz7_0 : w6.cell? ⟨gb106, 0, none⟩ = some (.int .i64 0) := (blk_cell BK106.out 0).trans rfl; have hcz7_1 : w6.cell? ⟨gb106, 1, none⟩ = some (.string (⟨#[]⟩ : ByteArray)) := (blk_cell BK106.out 1).trans rfl; have hfz7_0 := blk_frozen BK106.out 0; have hfz7_1 := blk_frozen BK106.out 1) | ((with_reducible refine gate_builtin (b := .append) (xs := #[.tmp 12, .tmp 14]) rfl ?_); at_builtin; refine Kd.R_append k34 (w0 := w) w.heap.size rfl (.tmp 12) (.tmp 14) 28 34 (.agg #[(.int .i64 0), (.string ⟨#[]⟩)]) 24 rfl Tryd.underlying28 info34 rfl (by decide) (by omega) u3 x3_1 (⟨(rd_T26 l0 x8_1).f0, (rd_T26 l0 x8_1).f1⟩ : S34) [.int .i64 ((rd_T26 l0 x8_1).f0), .string ((rd_T26 l0 x8_1).f1)] (fun _ => True) (fun _ => False) rfl (by first | (go_simp; done) | (go_simp; rfl)) ?aP (fun _ hk => hk.elim) ?aF ?aO ?aB ?aS ?aL ?_; (case aP => exact k34_mkM _ _ _ (⟨(rd_T26 l0 x8_1).f0, (rd_T26 l0 x8_1).f1⟩ : S34)); (case aB => exact (by repeat (first | (with_reducible first | exact HB.out | apply below_alloc | apply pw_below_drewN | apply below_drew1 | refine below_set ?_ GE106.out) | exact HB.out))); (case aF => exact (fun _ _ => trivial)); (case aO => exact (by (with_reducible repeat (first | apply Kd.R_alloc | apply Kd.R_drewN | apply Kd.R_drew)); exact Kd.R_mono (Kd.R_far (p := ⟨gb106, 1, none⟩) (Kd.R_far (p := ⟨gb106, 0, none⟩) (Kd.R_types HO_3.out BK106.out (by decide)) (fun _ hk => hk.2) (.int .i64 ((rd_T26 l0 x8_1).f0))) (fun _ hk => hk.2) (.string ((rd_T26 l0 x8_1).f1))) (fun _ hk => trivial))); (case aS => exact (below_size (by repeat (first | (with_reducible first | exact HB.out | apply below_alloc | apply pw_below_drewN | apply below_drew1 | refine below_set ?_ GE106.out) | exact HB.out)))); (case aL => have := LMc5.out; omega); intro v108 w8 ho hb hg hat; rw [← Ny107.out] at ho; have n0_ := Aside0.mk (blk_grown (g := gb106) (o := .cells #[.int .i64 ((rd_T26 l0 x8_1).f0), .string ((rd_T26 l0 x8_1).f1)] 26 (0, 0)) (by (with_reducible repeat (first | refine blk_drewN ?_ _ | refine blk_drew ?_ | refine blk_alloc ?_ _)); refine blk_put (cs := #[.int .i64 ((rd_T26 l0 x8_1).f0), .string (⟨#[]⟩ : ByteArray)]) ?_ 1 _ rfl; (with_reducible repeat (first | refine blk_drewN ?_ _ | refine blk_drew ?_ | refine blk_alloc ?_ _)); refine blk_put (cs := #[.int .i64 0, .string (⟨#[]⟩ : ByteArray)]) ?_ 0 _ rfl; (with_reducible repeat (first | refine blk_drewN ?_ _ | refine blk_drew ?_ | refine blk_alloc ?_ _)); exact BK106.out) hg (Kd.R_ne HO_3.out BK106.out (by decide))); have n1_ := Aside0.mk (hb); have n2_ := Aside0.mk (ho); clear BK106; clear HB; clear HO_3; have BK106 := n0_; have HB := n1_; have HO109 := n2_; clear n0_ n1_ n2_; clear ho hb hg hat))
   go_roundg k1
   case measure => have := HK1.out; omega
   case rel => exact ⟨(y107), (wrap64 (x8_1 + 1)), (by first | rfl | (simp; done) | (simp [*]; done)), H', ⟨by have := HK1.out; omega⟩, ⟨by (with_reducible repeat (first | apply Kd.R_alloc | apply Kd.R_drewN | apply Kd.R_drew)); exact HO109.out⟩, ⟨by repeat (first | (with_reducible first | exact HB.out | apply below_alloc | apply pw_below_drewN | apply below_drew1 | refine below_set ?_ GE106.out) | exact HB.out)⟩⟩
/-! ### spec_CleanChars: function 44 -/
def spec_CleanChars.f (a0 : ByteArray) (a1 : Int) : Option (Bool) := if (a0.size : Int) ≤ a1 then (if (runesI a0).length ≤ 70368744177664 then (some ((strOfRunes (runesI a0)).toList == a0.toList)) else (none)) else (some false)
set_option maxHeartbeats 8000000 in
set_option maxRecDepth 100000 in
theorem spec_CleanChars.calls (a0 : ByteArray) (a1 : Int) (r : Bool) (w : World) (h : spec_CleanChars.f a0 a1 = some r) :
  Calls Tryd.prog 44 #[.string a0, .int .i64 a1] w fun e w' => e = .returned (.bool r) ∧ Below w.heap.size w w' := by
 have HB := Aside0.mk (Below.refl w.heap.size w)
 have H : (if (a0.size : Int) ≤ a1 then (if (runesI a0).length ≤ 70368744177664 then (some ((strOfRunes (runesI a0)).toList == a0.toList)) else (none)) else (some false)) = some r := h
 clear h
 by_cases c3 : (a0.size : Int) ≤ a1
 case neg =>
  rw [if_neg c3] at H
  have c3b0 : decide ((a0.size : Int) ≤ a1) = false := decide_eq_false c3
  clear c3
  obtain rfl := Option.some.inj H
  go_enter Tryd.func44, Tryd.ntmps44
  go_wp2
  go_ret
  exact ⟨by first | rfl | (simp [errW_none, errW_some] <;> rfl) | (simp [*, errW_none, errW_some] <;> rfl), by repeat (first | (with_reducible first | exact HB.out | apply below_alloc | apply pw_below_drewN | apply below_drew1) | exact HB.out)⟩
 rw [if_pos c3] at H
 have c3b0 : decide ((a0.size : Int) ≤ a1) = true := decide_eq_true c3
 clear c3
 by_cases c4 : (runesI a0).length ≤ 70368744177664
 case neg =>
  rw [if_neg c4] at H
  exact absurd H (by simp)
 rw [if_pos c4] at H
 have c4b0 := eq_true c4
 have c4b1 : decide ((runesI a0).length ≤ 70368744177664) = true := decide_eq_true c4
 clear c4
 obtain ⟨y110, hy110⟩ : ∃ y_ : List Int, y_ = (runesI a0) := ⟨_, rfl⟩
 replace H : (some ((strOfRunes y110).toList == a0.toList)) = some r := by first | (rw [hy110]; with_reducible exact H) | (have H2_ := (Option.bind_some _ _).symm.trans H; rw [hy110]; with_reducible exact H2_) | (have H2_ := (Option.bind_some _ _).symm.trans H; with_reducible exact H2_) | with_reducible exact H | (rw [hy110]; exact H) | exact H
 have Ny110 := Aside0.mk hy110
 clear hy110
 obtain rfl := Option.some.inj H
 go_enter Tryd.func44, Tryd.ntmps44
 go_wp2_with (first | ((with_reducible refine gate_dst (N := 11) rfl ?_); (try (refine gate_guard (by rfl) ?_; dsimp only)); refine Kd.R_runes _ 21 rfl (N := 11) rfl 9 50 _ rfl a0 rfl Tryd.underlying9 Tryd.underlying50 Tryd.underlying21 info21 (ok := fun _ => True) (okp := fun _ => True) (fun _ hk => hk) trivial (of_decide_eq_true (by first | (with_reducible assumption) | assumption)) (Below.refl _ _) (Nat.le_refl _) ?_; intro v111 w5 ho6 hb hg_ hnew_; clear hg_ hnew_; (first | rw [← Ny110.out] at ho6 | (simp only [Int.reduceToNat] at ho6; rw [← Ny110.out] at ho6)); have n0_ := Aside0.mk (Kd.R_lower ho6 (below_size (by repeat (first | (with_reducible first | exact HB.out | apply below_alloc | apply pw_below_drewN | apply below_drew1) | exact HB.out)))); have n1_ := Aside0.mk (below_step (by repeat (first | (with_reducible first | exact HB.out | apply below_alloc | apply pw_below_drewN | apply below_drew1) | exact HB.out)) hb); clear HB; have HO112 := n0_; have HB := n1_; clear n0_ n1_; clear hb ho6; have hcv7 := own_runes_string (P := Tryd.prog) Tryd.underlying50 Tryd.underlying21 Tryd.underlying9 (Kd.own_of_R HO112.out)))
 go_ret
 exact ⟨by first | rfl | (simp [errW_none, errW_some] <;> rfl) | (simp [*, errW_none, errW_some] <;> rfl), by repeat (first | (with_reducible first | exact HB.out | apply below_alloc | apply pw_below_drewN | apply below_drew1) | exact HB.out)⟩
/-! ### spec_CleanRight: function 33 -/
mutual
def spec_CleanRight.l0 : Nat → Int → Bool → List (S34) → Int → Int → Option (Bool)
 | 0, _, _, _, _, _ => none
 | k + 1, x2, x3, x16, x17, x18 => if x18 < x17 then (if 0 ≤ x18 then (if x18 < (x16.length : Int) then (if ((rd_T34 x16 x18).f0) < (-1) then (spec_CleanRight.j1 k x2 x3 x16 x17 x18 true ((rd_T34 x16 x18).f0) ((rd_T34 x16 x18).f1)) else (if ((rd_T34 x16 x18).f0) > 1 then (spec_CleanRight.j1 k x2 x3 x16 x17 x18 true ((rd_T34 x16 x18).f0) ((rd_T34 x16 x18).f1)) else (if ((rd_T34 x16 x18).f1).toList = ([] : List UInt8) then (spec_CleanRight.j1 k x2 x3 x16 x17 x18 true ((rd_T34 x16 x18).f0) ((rd_T34 x16 x18).f1)) else ((spec_CleanChars.f ((rd_T34 x16 x18).f1) x2).bind fun t115 => (spec_CleanRight.j1 k x2 x3 x16 x17 x18 (!t115) ((rd_T34 x16 x18).f0) ((rd_T34 x16 x18).f1)))))) else (none)) else (none)) else (some true)
def spec_CleanRight.j1 : Nat → Int → Bool → List (S34) → Int → Int → Bool → Int → ByteArray → Option (Bool)
 | 0, _, _, _, _, _, _, _, _ => none
 | k + 1, x2, x3, x16, x17, x18, x41, x115000, x115001 => if x41 = true then (some false) else (spec_CleanRight.l1 k x2 x3 0 x16 x17 x18 x115000 x115001)
def spec_CleanRight.l1 : Nat → Int → Bool → Int → List (S34) → Int → Int → Int → ByteArray → Option (Bool)
 | 0, _, _, _, _, _, _, _, _ => none
 | k + 1, x2, x3, x11, x16, x17, x18, x115000, x115001 => if x11 < (x115001.size : Int) then (spec_CleanRight.j3 k x2 x3 x11 x16 x17 x18 x3 x115000 x115001) else (spec_CleanRight.j3 k x2 x3 x11 x16 x17 x18 false x115000 x115001)
def spec_CleanRight.j3 : Nat → Int → Bool → Int → List (S34) → Int → Int → Bool → Int → ByteArray → Option (Bool)
 | 0, _, _, _, _, _, _, _, _, _ => none
 | k + 1, x2, x3, x11, x16, x17, x18, x49, x115000, x115001 => if x49 = true then (if 0 ≤ x11 then (if x11 < (x115001.size : Int) then (if (bt x115001 x11) > 126 then (some false) else (spec_CleanRight.l1 k x2 x3 (wrap64 (x11 + 1)) x16 x17 x18 x115000 x115001)) else (none)) else (none)) else (spec_CleanRight.l0 k x2 x3 x16 x17 (wrap64 (x18 + 1)))
end
def spec_CleanRight.f (k : Nat) (l0 : List (S34)) (a1 : Int) (a2 : Int) (a3 : Bool) : Option (Bool) := if (l0.length : Int) > a1 then (some false) else (spec_CleanRight.l0 k a2 a3 l0 (l0.length : Int) 0)
theorem spec_CleanRight.mono_l : ∀ k, (∀ y0 y1 y2 y3 y4, LeO (spec_CleanRight.l0 k y0 y1 y2 y3 y4) (spec_CleanRight.l0 (k + 1) y0 y1 y2 y3 y4)) ∧ (∀ y0 y1 y2 y3 y4 y5 y6 y7, LeO (spec_CleanRight.j1 k y0 y1 y2 y3 y4 y5 y6 y7) (spec_CleanRight.j1 (k + 1) y0 y1 y2 y3 y4 y5 y6 y7)) ∧ (∀ y0 y1 y2 y3 y4 y5 y6 y7, LeO (spec_CleanRight.l1 k y0 y1 y2 y3 y4 y5 y6 y7) (spec_CleanRight.l1 (k + 1) y0 y1 y2 y3 y4 y5 y6 y7)) ∧ (∀ y0 y1 y2 y3 y4 y5 y6 y7 y8, LeO (spec_CleanRight.j3 k y0 y1 y2 y3 y4 y5 y6 y7 y8) (spec_CleanRight.j3 (k + 1) y0 y1 y2 y3 y4 y5 y6 y7 y8))
 | 0 => ⟨fun _ _ _ _ _ r h => by simp [spec_CleanRight.l0] at h, fun _ _ _ _ _ _ _ _ r h => by simp [spec_CleanRight.j1] at h, fun _ _ _ _ _ _ _ _ r h => by simp [spec_CleanRight.l1] at h, fun _ _ _ _ _ _ _ _ _ r h => by simp [spec_CleanRight.j3] at h⟩
 | k + 1 => by
  obtain ⟨ih0, ih1, ih2, ih3⟩ := spec_CleanRight.mono_l k
  refine ⟨?_, ?_, ?_, ?_⟩
  ·intro y0 y1 y2 y3 y4
   unfold spec_CleanRight.l0
   repeat' first
   | (with_reducible exact ih0 _ _ _ _ _)
   | (with_reducible exact ih1 _ _ _ _ _ _ _ _)
   | (with_reducible exact ih2 _ _ _ _ _ _ _ _)
   | (with_reducible exact ih3 _ _ _ _ _ _ _ _ _)
   | (with_reducible exact LeO.refl _)
   | (with_reducible exact LeO.none _)
   | (with_reducible refine LeO.ite ?_ ?_)
   | (with_reducible refine LeO.bind ?_ (fun _ => ?_))
   | exact ih0 _ _ _ _ _
   | exact ih1 _ _ _ _ _ _ _ _
   | exact ih2 _ _ _ _ _ _ _ _
   | exact ih3 _ _ _ _ _ _ _ _ _
   | exact LeO.none _
   | refine LeO.ite ?_ ?_
   | refine LeO.bind ?_ (fun _ => ?_)
  ·intro y0 y1 y2 y3 y4 y5 y6 y7
   unfold spec_CleanRight.j1
   repeat' first
   | (with_reducible exact ih0 _ _ _ _ _)
   | (with_reducible exact ih1 _ _ _ _ _ _ _ _)
   | (with_reducible exact ih2 _ _ _ _ _ _ _ _)
   | (with_reducible exact ih3 _ _ _ _ _ _ _ _ _)
   | (with_reducible exact LeO.refl _)
   | (with_reducible exact LeO.none _)
   | (with_reducible refine LeO.ite ?_ ?_)
   | (with_reducible refine LeO.bind ?_ (fun _ => ?_))
   | exact ih0 _ _ _ _ _
   | exact ih1 _ _ _ _ _ _ _ _
   | exact ih2 _ _ _ _ _ _ _ _
   | exact ih3 _ _ _ _ _ _ _ _ _
   | exact LeO.none _
   | refine LeO.ite ?_ ?_
   | refine LeO.bind ?_ (fun _ => ?_)
  ·intro y0 y1 y2 y3 y4 y5 y6 y7
   unfold spec_CleanRight.l1
   repeat' first
   | (with_reducible exact ih0 _ _ _ _ _)
   | (with_reducible exact ih1 _ _ _ _ _ _ _ _)
   | (with_reducible exact ih2 _ _ _ _ _ _ _ _)
   | (with_reducible exact ih3 _ _ _ _ _ _ _ _ _)
   | (with_reducible exact LeO.refl _)
   | (with_reducible exact LeO.none _)
   | (with_reducible refine LeO.ite ?_ ?_)
   | (with_reducible refine LeO.bind ?_ (fun _ => ?_))
   | exact ih0 _ _ _ _ _
   | exact ih1 _ _ _ _ _ _ _ _
   | exact ih2 _ _ _ _ _ _ _ _
   | exact ih3 _ _ _ _ _ _ _ _ _
   | exact LeO.none _
   | refine LeO.ite ?_ ?_
   | refine LeO.bind ?_ (fun _ => ?_)
  ·intro y0 y1 y2 y3 y4 y5 y6 y7 y8
   unfold spec_CleanRight.j3
   repeat' first
   | (with_reducible exact ih0 _ _ _ _ _)
   | (with_reducible exact ih1 _ _ _ _ _ _ _ _)
   | (with_reducible exact ih2 _ _ _ _ _ _ _ _)
   | (with_reducible exact ih3 _ _ _ _ _ _ _ _ _)
   | (with_reducible exact LeO.refl _)
   | (with_reducible exact LeO.none _)
   | (with_reducible refine LeO.ite ?_ ?_)
   | (with_reducible refine LeO.bind ?_ (fun _ => ?_))
   | exact ih0 _ _ _ _ _
   | exact ih1 _ _ _ _ _ _ _ _
   | exact ih2 _ _ _ _ _ _ _ _
   | exact ih3 _ _ _ _ _ _ _ _ _
   | exact LeO.none _
   | refine LeO.ite ?_ ?_
   | refine LeO.bind ?_ (fun _ => ?_)
theorem spec_CleanRight.mono : ∀ a0 a1 a2 a3 k, LeO (spec_CleanRight.f k a0 a1 a2 a3) (spec_CleanRight.f (k + 1) a0 a1 a2 a3) := by
 intro a0 a1 a2 a3 k
 obtain ⟨ih0, ih1, ih2, ih3⟩ := spec_CleanRight.mono_l k
 unfold spec_CleanRight.f
 repeat' first
   | (with_reducible exact ih0 _ _ _ _ _)
   | (with_reducible exact ih1 _ _ _ _ _ _ _ _)
   | (with_reducible exact ih2 _ _ _ _ _ _ _ _)
   | (with_reducible exact ih3 _ _ _ _ _ _ _ _ _)
   | (with_reducible exact LeO.refl _)
   | (with_reducible exact LeO.none _)
   | (with_reducible refine LeO.ite ?_ ?_)
   | (with_reducible refine LeO.bind ?_ (fun _ => ?_))
   | exact ih0 _ _ _ _ _
   | exact ih1 _ _ _ _ _ _ _ _
   | exact ih2 _ _ _ _ _ _ _ _
   | exact ih3 _ _ _ _ _ _ _ _ _
   | exact LeO.none _
   | refine LeO.ite ?_ ?_
   | refine LeO.bind ?_ (fun _ => ?_)
set_option maxHeartbeats 8000000 in
set_option maxRecDepth 100000 in
theorem spec_CleanRight.calls (k : Nat) (A0 : Option Addr) (c0 : Nat) (l0 : List (S34)) (a1 : Int) (a2 : Int) (a3 : Bool) (r : Bool) (w : World) (hr0 : Kd.C k34 w A0 l0.length l0) (hc0 : l0.length ≤ c0) (h : spec_CleanRight.f k l0 a1 a2 a3 = some r) :
  Calls Tryd.prog 33 #[.slice A0 l0.length c0, .int .i64 a1, .int .i64 a2, .bool a3] w fun e w' => e = .returned (.bool r) ∧ Below w.heap.size w w' := by
 have hu34 := Tryd.underlying34
 have HR0 := Aside0.mk hr0
 have HC0 := Aside0.mk hc0
 clear hr0 hc0
 have HB := Aside0.mk (Below.refl w.heap.size w)
 have H : (if (l0.length : Int) > a1 then (some false) else (spec_CleanRight.l0 k a2 a3 l0 (l0.length : Int) 0)) = some r := h
 clear h
 by_cases c5 : (l0.length : Int) > a1
 ·rw [if_pos c5] at H
  have c5b0 : decide (a1 < (l0.length : Int)) = true := decide_eq_true c5
  clear c5
  obtain rfl := Option.some.inj H
  go_enter Tryd.func33, Tryd.ntmps33
  go_wp2
  go_ret
  exact ⟨by first | rfl | (simp [errW_none, errW_some] <;> rfl) | (simp [*, errW_none, errW_some] <;> rfl), by repeat (first | (with_reducible first | exact HB.out | apply below_alloc | apply pw_below_drewN | apply below_drew1) | exact HB.out)⟩
 as_aux_lemma =>
  rw [if_neg c5] at H
  have c5b0 : decide (a1 < (l0.length : Int)) = false := decide_eq_false c5
  clear c5
  have H' := Aside0.mk H
  clear H
  go_enter Tryd.func33, Tryd.ntmps33
  go_wp2
  go_loopg [18] k (fun kq v18 w' => ∃ (x18_1 : Int), v18 = .int .i64 x18_1 ∧ Aside0 (spec_CleanRight.l0 kq a2 a3 l0 (l0.length : Int) x18_1 = some r) ∧ Aside0 (kq ≤ k) ∧ Aside0 (Below w.heap.size w w'))
  case atStart => exact ⟨(0), (by first | rfl | (simp; done) | (simp [*]; done)), H', ⟨Nat.le_refl _⟩, ⟨by repeat (first | (with_reducible first | exact HB.out | apply below_alloc | apply pw_below_drewN | apply below_drew1) | exact HB.out)⟩⟩
  case round => as_aux_lemma =>
    clear H'
    try clear p2
    try clear c3
    try clear c5
    try clear c5b0
    obtain ⟨x18_1, rfl, HA, HK1, HB⟩ := hrel
    cases gk with
    | zero => exact absurd HA.out (by simp [spec_CleanRight.l0])
    | succ k1 =>
     have H := HA.out
     clear HA
     simp only [spec_CleanRight.l0] at H
     by_cases c6 : x18_1 < (l0.length : Int)
     case neg =>
      rw [if_neg c6] at H
      have c6b0 : decide (x18_1 < (l0.length : Int)) = false := decide_eq_false c6
      clear c6
      obtain rfl := Option.some.inj H
      go_wp2
      go_ret
      exact ⟨by first | rfl | (simp [errW_none, errW_some] <;> rfl) | (simp [*, errW_none, errW_some] <;> rfl), by repeat (first | (with_reducible first | exact HB.out | apply below_alloc | apply pw_below_drewN | apply below_drew1) | exact HB.out)⟩
     rw [if_pos c6] at H
     have c6b0 : decide (x18_1 < (l0.length : Int)) = true := decide_eq_true c6
     clear c6
     by_cases c7 : 0 ≤ x18_1
     case neg =>
      rw [if_neg c7] at H
      exact absurd H (by simp)
     rw [if_pos c7] at H
     have c7b0 : decide (0 ≤ x18_1) = true := decide_eq_true c7
     clear c7
     by_cases c8 : x18_1 < (l0.length : Int)
     case neg =>
      rw [if_neg c8] at H
      exact absurd H (by simp)
     rw [if_pos c8] at H
     have c8b0 : decide (x18_1 < (l0.length : Int)) = true := decide_eq_true c8
     clear c8
     have HC9 := Aside0.mk H
     clear H
     have p113 : 0 ≤ (x18_1 : Int) := of_decide_eq_true (by first | (with_reducible assumption) | assumption)
     have q113 : x18_1 < (l0.length : Int) := of_decide_eq_true (by first | (with_reducible assumption) | assumption)
     obtain ⟨ad113, e113, hx113_0, hx113_1⟩ := at_T34 HR0.out x18_1 p113 q113
     cases e113
     replace hx113_0 := (HB.out.cell (World.block_lt_of_cell? w _ hx113_0)).trans hx113_0
     replace hx113_1 := (HB.out.cell (World.block_lt_of_cell? w _ hx113_1)).trans hx113_1
     replace p113 := eq_true p113
     replace q113 := eq_true q113
     go_upto_region 6 with (first | ((with_reducible refine gate_dst (N := 10) rfl ?_); refine box_event ?hg (N := 10) ?hd (cs := #[.int .i64 0, .string (⟨#[]⟩ : ByteArray)]) (t := 34) ?hr ?_; (case hd => rfl); (case hg => rfl); (case hr => first | (go_simp; done) | (go_simp; rfl)); intro gb114 hg w10 hbox hb; have n0_ := Aside0.mk (below_step (by repeat (first | (with_reducible first | exact HB.out | apply below_alloc | apply pw_below_drewN | apply below_drew1) | exact HB.out)) hb); have n1_ := Aside0.mk (hbox); have n2_ := Aside0.mk ((by rw [hg]; exact (below_size (by repeat (first | (with_reducible first | exact HB.out | apply below_alloc | apply pw_below_drewN | apply below_drew1) | exact HB.out))) : w.heap.size ≤ gb114)); have n3_ := Aside0.mk ((by rw [hg]; exact (below_size (by repeat (first | (with_reducible first | exact HB.out | apply below_alloc | apply pw_below_drewN | apply below_drew1) | exact HB.out))) : w.heap.size ≤ gb114)); clear HB; have HB := n0_; have BK114 := n1_; have GW114 := n2_; have GE114 := n3_; clear n0_ n1_ n2_ n3_; clear hb hbox hg; have hcz11_0 : w10.cell? ⟨gb114, 0, none⟩ = some (.int .i64 0) := (blk_cell BK114.out 0).trans rfl; have hcz11_1 : w10.cell? ⟨gb114, 1, none⟩ = some (.string (⟨#[]⟩ : ByteArray)) := (blk_cell BK114.out 1).trans rfl; have hfz11_0 := blk_frozen BK114.out 0; have hfz11_1 := blk_frozen BK114.out 1))
     (try simp only [Act.put, List.setIfInBounds_toArray, List.set_cons_zero, List.set_cons_succ])
     go_cut [41] (fun v41 wc => ∃ (kq : Nat) (x41_8 : Bool), v41 = .bool x41_8 ∧ Aside0 (spec_CleanRight.j1 kq a2 a3 l0 (l0.length : Int) x18_1 x41_8 ((rd_T34 l0 x18_1).f0) ((rd_T34 l0 x18_1).f1) = some r) ∧ Aside0 (kq ≤ k1) ∧ Aside0 (wc.heap[gb114]? = some (.cells #[.int .i64 ((rd_T34 l0 x18_1).f0), .string ((rd_T34 l0 x18_1).f1)] 34 (0, 0))) ∧ Aside0 (Below w.heap.size w wc))
     case first =>
      have H := HC9.out
      clear HC9
      by_cases c12 : ((rd_T34 l0 x18_1).f0) < (-1)
      ·rw [if_pos c12] at H
       have c12b0 : decide (((rd_T34 l0 x18_1).f0) < (-1)) = true := decide_eq_true c12
       clear c12
       (first | rw [c12b0] | (simp only [i64_w, i32_w]; rw [c12b0]) | rw [c12b1] | skip)
       have H' := Aside0.mk H
       clear H
       have hcz13_0 : w10.cell? ⟨gb114, 0, none⟩ = some (.int .i64 0) := (blk_cell BK114.out 0).trans rfl
       have hcz13_1 : w10.cell? ⟨gb114, 1, none⟩ = some (.string (⟨#[]⟩ : ByteArray)) := (blk_cell BK114.out 1).trans rfl
       have hfz13_0 := blk_frozen BK114.out 0
       have hfz13_1 := blk_frozen BK114.out 1
       go_wp2
       go_meet
       case rel => exact ⟨_, (true), (by first | rfl | (simp; done) | (simp [*]; done)), H', ⟨by have := HK1.out; first | omega | exact Nat.le_refl _⟩, ⟨by (with_reducible repeat (first | refine blk_drewN ?_ _ | refine blk_drew ?_ | refine blk_alloc ?_ _)); refine blk_put (cs := #[.int .i64 ((rd_T34 l0 x18_1).f0), .string (⟨#[]⟩ : ByteArray)]) ?_ 1 _ rfl; (with_reducible repeat (first | refine blk_drewN ?_ _ | refine blk_drew ?_ | refine blk_alloc ?_ _)); refine blk_put (cs := #[.int .i64 0, .string (⟨#[]⟩ : ByteArray)]) ?_ 0 _ rfl; (with_reducible repeat (first | refine blk_drewN ?_ _ | refine blk_drew ?_ | refine blk_alloc ?_ _)); exact BK114.out⟩, ⟨by repeat (first | (with_reducible first | exact HB.out | apply below_alloc | apply pw_below_drewN | apply below_drew1 | refine below_set ?_ GE114.out) | exact HB.out)⟩⟩
      rw [if_neg c12] at H
      have c12b0 : decide (((rd_T34 l0 x18_1).f0) < (-1)) = false := decide_eq_false c12
      clear c12
      (first | rw [c12b0] | (simp only [i64_w, i32_w]; rw [c12b0]) | rw [c12b1] | skip)
      by_cases c14 : ((rd_T34 l0 x18_1).f0) > 1
      ·rw [if_pos c14] at H
       have c14b0 : decide (1 < ((rd_T34 l0 x18_1).f0)) = true := decide_eq_true c14
       clear c14
       have H' := Aside0.mk H
       clear H
       have hcz15_0 : w10.cell? ⟨gb114, 0, none⟩ = some (.int .i64 0) := (blk_cell BK114.out 0).trans rfl
       have hcz15_1 : w10.cell? ⟨gb114, 1, none⟩ = some (.string (⟨#[]⟩ : ByteArray)) := (blk_cell BK114.out 1).trans rfl
       have hfz15_0 := blk_frozen BK114.out 0
       have hfz15_1 := blk_frozen BK114.out 1
       go_wp2
       go_meet
       case rel => exact ⟨_, (true), (by first | rfl | (simp; done) | (simp [*]; done)), H', ⟨by have := HK1.out; first | omega | exact Nat.le_refl _⟩, ⟨by (with_reducible repeat (first | refine blk_drewN ?_ _ | refine blk_drew ?_ | refine blk_alloc ?_ _)); refine blk_put (cs := #[.int .i64 ((rd_T34 l0 x18_1).f0), .string (⟨#[]⟩ : ByteArray)]) ?_ 1 _ rfl; (with_reducible repeat (first | refine blk_drewN ?_ _ | refine blk_drew ?_ | refine blk_alloc ?_ _)); refine blk_put (cs := #[.int .i64 0, .string (⟨#[]⟩ : ByteArray)]) ?_ 0 _ rfl; (with_reducible repeat (first | refine blk_drewN ?_ _ | refine blk_drew ?_ | refine blk_alloc ?_ _)); exact BK114.out⟩, ⟨by repeat (first | (with_reducible first | exact HB.out | apply below_alloc | apply pw_below_drewN | apply below_drew1 | refine below_set ?_ GE114.out) | exact HB.out)⟩⟩
      rw [if_neg c14] at H
      have c14b0 : decide (1 < ((rd_T34 l0 x18_1).f0)) = false := decide_eq_false c14
      clear c14
      by_cases c16 : ((rd_T34 l0 x18_1).f1).toList = ([] : List UInt8)
      ·rw [if_pos c16] at H
       have c16b0 : (((rd_T34 l0 x18_1).f1).toList == ([] : List UInt8)) = true := beq_iff_eq.mpr c16
       have c16b1 : (((rd_T34 l0 x18_1).f1).toList != ([] : List UInt8)) = false := bne_eq_false_iff_eq.mpr c16
       clear c16
       have H' := Aside0.mk H
       clear H
       have hcz17_0 : w10.cell? ⟨gb114, 0, none⟩ = some (.int .i64 0) := (blk_cell BK114.out 0).trans rfl
       have hcz17_1 : w10.cell? ⟨gb114, 1, none⟩ = some (.string (⟨#[]⟩ : ByteArray)) := (blk_cell BK114.out 1).trans rfl
       have hfz17_0 := blk_frozen BK114.out 0
       have hfz17_1 := blk_frozen BK114.out 1
       go_wp2
       go_meet
       case rel => exact ⟨_, (true), (by first | rfl | (simp; done) | (simp [*]; done)), H', ⟨by have := HK1.out; first | omega | exact Nat.le_refl _⟩, ⟨by (with_reducible repeat (first | refine blk_drewN ?_ _ | refine blk_drew ?_ | refine blk_alloc ?_ _)); refine blk_put (cs := #[.int .i64 ((rd_T34 l0 x18_1).f0), .string (⟨#[]⟩ : ByteArray)]) ?_ 1 _ rfl; (with_reducible repeat (first | refine blk_drewN ?_ _ | refine blk_drew ?_ | refine blk_alloc ?_ _)); refine blk_put (cs := #[.int .i64 0, .string (⟨#[]⟩ : ByteArray)]) ?_ 0 _ rfl; (with_reducible repeat (first | refine blk_drewN ?_ _ | refine blk_drew ?_ | refine blk_alloc ?_ _)); exact BK114.out⟩, ⟨by repeat (first | (with_reducible first | exact HB.out | apply below_alloc | apply pw_below_drewN | apply below_drew1 | refine below_set ?_ GE114.out) | exact HB.out)⟩⟩
      rw [if_neg c16] at H
      have c16b0 : (((rd_T34 l0 x18_1).f1).toList == ([] : List UInt8)) = false := beq_eq_false_iff_ne.mpr c16
      have c16b1 : (((rd_T34 l0 x18_1).f1).toList != ([] : List UInt8)) = true := bne_iff_ne.mpr c16
      replace H := Option.bind_eq_some_iff.mp H
      obtain ⟨t115, A180, H⟩ := H
      replace H : (spec_CleanRight.j1 k1 a2 a3 l0 (l0.length : Int) x18_1 (!t115) ((rd_T34 l0 x18_1).f0) ((rd_T34 l0 x18_1).f1)) = some r := H
      have A18 := Aside0.mk A180
      clear A180
      have H' := Aside0.mk H
      clear H
      have hcz19_0 : w10.cell? ⟨gb114, 0, none⟩ = some (.int .i64 0) := (blk_cell BK114.out 0).trans rfl
      have hcz19_1 : w10.cell? ⟨gb114, 1, none⟩ = some (.string (⟨#[]⟩ : ByteArray)) := (blk_cell BK114.out 1).trans rfl
      have hfz19_0 := blk_frozen BK114.out 0
      have hfz19_1 := blk_frozen BK114.out 1
      go_wp2_with (first | (go_at_call 44; (with_reducible refine (spec_CleanChars.calls ((rd_T34 l0 x18_1).f1) a2 t115 _ A18.out).mono ?_); rintro e w20 ⟨rfl, hb⟩; have n0_ := Aside0.mk (blk_below (g := gb114) (o := .cells #[.int .i64 ((rd_T34 l0 x18_1).f0), .string ((rd_T34 l0 x18_1).f1)] 34 (0, 0)) (by (with_reducible repeat (first | refine blk_drewN ?_ _ | refine blk_drew ?_ | refine blk_alloc ?_ _)); refine blk_put (cs := #[.int .i64 ((rd_T34 l0 x18_1).f0), .string (⟨#[]⟩ : ByteArray)]) ?_ 1 _ rfl; (with_reducible repeat (first | refine blk_drewN ?_ _ | refine blk_drew ?_ | refine blk_alloc ?_ _)); refine blk_put (cs := #[.int .i64 0, .string (⟨#[]⟩ : ByteArray)]) ?_ 0 _ rfl; (with_reducible repeat (first | refine blk_drewN ?_ _ | refine blk_drew ?_ | refine blk_alloc ?_ _)); exact BK114.out) hb); have n1_ := Aside0.mk (below_step (by repeat (first | (with_reducible first | exact HB.out | apply below_alloc | apply pw_below_drewN | apply below_drew1 | refine below_set ?_ GE114.out) | exact HB.out)) hb); clear BK114; clear HB; have BK114 := n0_; have HB := n1_; clear n0_ n1_; (try clear hb); (try clear hb2); (try clear hk); (try clear hi)))
      go_meet
      case rel => exact ⟨_, (!t115), (by first | rfl | (simp; done) | (simp [*]; done)), H', ⟨by have := HK1.out; first | omega | exact Nat.le_refl _⟩, ⟨by (with_reducible repeat (first | refine blk_drewN ?_ _ | refine blk_drew ?_ | refine blk_alloc ?_ _)); exact BK114.out⟩, ⟨by repeat (first | (with_reducible first | exact HB.out | apply below_alloc | apply pw_below_drewN | apply below_drew1 | refine below_set ?_ GE114.out) | exact HB.out)⟩⟩
     case rest =>
      clear HC9
      try clear c1
      try clear p1
      try clear q1
      try clear hx1
      try clear p2
      try clear c3
      try clear c5
      try clear c5b0
      try clear c6
      try clear c6b0
      try clear c7
      try clear c7b0
      try clear c8
      try clear c8b0
      try clear p11
      try clear q11
      try clear hx11
      try clear c12
      try clear c12b0
      try clear c12b1
      try clear c14
      try clear c14b0
      try clear c16
      try clear c16b0
      try clear c16b1
      try clear hcz11_0
      try clear hcz11_1
      try clear hcz13_0
      try clear hcz13_1
      try clear hcz15_0
      try clear hcz15_1
      try clear hcz17_0
      try clear hcz17_1
      try clear hcz19_0
      try clear hcz19_1
      try clear hfz11_0
      try clear hfz11_1
      try clear hfz13_0
      try clear hfz13_1
      try clear hfz15_0
      try clear hfz15_1
      try clear hfz17_0
      try clear hfz17_1
      try clear hfz19_0
      try clear hfz19_1
      try clear hx113_0
      try clear hx113_1
      try clear p113
      try clear p2
      try clear q113
      obtain ⟨kq, x41_8, rfl, HA, HJ8, BK114, HB⟩ := hcut
      cases kq with
      | zero => exact absurd HA.out (by simp [spec_CleanRight.j1])
      | succ kj8 =>
       have H := HA.out
       clear HA
       simp only [spec_CleanRight.j1] at H
       by_cases c21 : x41_8 = true
       ·subst c21
        have H1 : (some false) = some r := by rw [if_pos rfl] at H; exact H
        clear H
        have H := H1
        clear H1
        obtain rfl := Option.some.inj H
        go_wp2
        go_ret
        exact ⟨by first | rfl | (simp [errW_none, errW_some] <;> rfl) | (simp [*, errW_none, errW_some] <;> rfl), by repeat (first | (with_reducible first | exact HB.out | apply below_alloc | apply pw_below_drewN | apply below_drew1 | refine below_set ?_ GE114.out) | exact HB.out)⟩
       replace c21 := Bool.eq_false_iff.mpr c21
       subst c21
       have H1 : (spec_CleanRight.l1 kj8 a2 a3 0 l0 (l0.length : Int) x18_1 ((rd_T34 l0 x18_1).f0) ((rd_T34 l0 x18_1).f1)) = some r := by rw [if_neg (show ¬ (false = true) by decide)] at H; exact H
       clear H
       have H := H1
       clear H1
       have H' := Aside0.mk H
       clear H
       go_wp2
       go_loopg [11] kj8 (fun kq v11 w' => ∃ (x11_3 : Int), v11 = .int .i64 x11_3 ∧ Aside0 (spec_CleanRight.l1 kq a2 a3 x11_3 l0 (l0.length : Int) x18_1 ((rd_T34 l0 x18_1).f0) ((rd_T34 l0 x18_1).f1) = some r) ∧ Aside0 (kq ≤ kj8) ∧ Aside0 (w'.heap[gb114]? = some (.cells #[.int .i64 ((rd_T34 l0 x18_1).f0), .string ((rd_T34 l0 x18_1).f1)] 34 (0, 0))) ∧ Aside0 (Below w.heap.size w w'))
       case atStart => exact ⟨(0), (by first | rfl | (simp; done) | (simp [*]; done)), H', ⟨Nat.le_refl _⟩, ⟨by (with_reducible repeat (first | refine blk_drewN ?_ _ | refine blk_drew ?_ | refine blk_alloc ?_ _)); exact BK114.out⟩, ⟨by repeat (first | (with_reducible first | exact HB.out | apply below_alloc | apply pw_below_drewN | apply below_drew1 | refine below_set ?_ GE114.out) | exact HB.out)⟩⟩
       case round =>
        clear H'
        try clear c1
        try clear p1
        try clear q1
        try clear hx1
        try clear c2
        try clear p2
        try clear c3
        try clear c5
        try clear c5b0
        try clear c6
        try clear c6b0
        try clear c7
        try clear c7b0
        try clear c8
        try clear c8b0
        try clear p11
        try clear q11
        try clear hx11
        try clear c12
        try clear c12b0
        try clear c12b1
        try clear c14
        try clear c14b0
        try clear c16
        try clear c16b0
        try clear c16b1
        try clear c21
        try clear hcz11_0
        try clear hcz11_1
        try clear hcz13_0
        try clear hcz13_1
        try clear hcz15_0
        try clear hcz15_1
        try clear hcz17_0
        try clear hcz17_1
        try clear hcz19_0
        try clear hcz19_1
        try clear hfz11_0
        try clear hfz11_1
        try clear hfz13_0
        try clear hfz13_1
        try clear hfz15_0
        try clear hfz15_1
        try clear hfz17_0
        try clear hfz17_1
        try clear hfz19_0
        try clear hfz19_1
        try clear hx113_0
        try clear hx113_1
        try clear p1
        try clear p11
        try clear p113
        try clear p2
        try clear q1
        try clear q11
        try clear q113
        obtain ⟨x11_3, rfl, HA, HK3, BK114, HB⟩ := hrel
        cases gk with
        | zero => exact absurd HA.out (by simp [spec_CleanRight.l1])
        | succ k3 =>
         have H := HA.out
         clear HA
         simp only [spec_CleanRight.l1] at H
         have HC22 := Aside0.mk H
         clear H
         go_upto_region 9 with (fail)
         go_cut [49] (fun v49 wc => ∃ (kq : Nat) (x49_21 : Bool), v49 = .bool x49_21 ∧ Aside0 (spec_CleanRight.j3 kq a2 a3 x11_3 l0 (l0.length : Int) x18_1 x49_21 ((rd_T34 l0 x18_1).f0) ((rd_T34 l0 x18_1).f1) = some r) ∧ Aside0 (kq ≤ k3) ∧ Aside0 (wc.heap[gb114]? = some (.cells #[.int .i64 ((rd_T34 l0 x18_1).f0), .string ((rd_T34 l0 x18_1).f1)] 34 (0, 0))) ∧ Aside0 (Below w.heap.size w wc))
         case first =>
          have H := HC22.out
          clear HC22
          by_cases c23 : x11_3 < (((rd_T34 l0 x18_1).f1).size : Int)
          ·rw [if_pos c23] at H
           have c23b0 : decide (x11_3 < (((rd_T34 l0 x18_1).f1).size : Int)) = true := decide_eq_true c23
           clear c23
           (first | rw [c23b0] | (simp only [i64_w, i32_w]; rw [c23b0]) | rw [c23b1] | skip)
           have H' := Aside0.mk H
           clear H
           have hcz24_0 : wr.cell? ⟨gb114, 0, none⟩ = some (.int .i64 ((rd_T34 l0 x18_1).f0)) := (blk_cell BK114.out 0).trans rfl
           have hcz24_1 : wr.cell? ⟨gb114, 1, none⟩ = some (.string ((rd_T34 l0 x18_1).f1)) := (blk_cell BK114.out 1).trans rfl
           have hfz24_0 := blk_frozen BK114.out 0
           have hfz24_1 := blk_frozen BK114.out 1
           go_wp2
           go_meet
           case rel => exact ⟨_, (a3), (by first | rfl | (simp; done) | (simp [*]; done)), H', ⟨by have := HK1.out; have := HJ8.out; have := HK3.out; first | omega | exact Nat.le_refl _⟩, ⟨by (with_reducible repeat (first | refine blk_drewN ?_ _ | refine blk_drew ?_ | refine blk_alloc ?_ _)); exact BK114.out⟩, ⟨by repeat (first | (with_reducible first | exact HB.out | apply below_alloc | apply pw_below_drewN | apply below_drew1 | refine below_set ?_ GE114.out) | exact HB.out)⟩⟩
          rw [if_neg c23] at H
          have c23b0 : decide (x11_3 < (((rd_T34 l0 x18_1).f1).size : Int)) = false := decide_eq_false c23
          clear c23
          (first | rw [c23b0] | (simp only [i64_w, i32_w]; rw [c23b0]) | rw [c23b1] | skip)
          have H' := Aside0.mk H
          clear H
          have hcz25_0 : wr.cell? ⟨gb114, 0, none⟩ = some (.int .i64 ((rd_T34 l0 x18_1).f0)) := (blk_cell BK114.out 0).trans rfl
          have hcz25_1 : wr.cell? ⟨gb114, 1, none⟩ = some (.string ((rd_T34 l0 x18_1).f1)) := (blk_cell BK114.out 1).trans rfl
          have hfz25_0 := blk_frozen BK114.out 0
          have hfz25_1 := blk_frozen BK114.out 1
          go_wp2
          go_meet
          case rel => exact ⟨_, (false), (by first | rfl | (simp; done) | (simp [*]; done)), H', ⟨by have := HK1.out; have := HJ8.out; have := HK3.out; first | omega | exact Nat.le_refl _⟩, ⟨by (with_reducible repeat (first | refine blk_drewN ?_ _ | refine blk_drew ?_ | refine blk_alloc ?_ _)); exact BK114.out⟩, ⟨by repeat (first | (with_reducible first | exact HB.out | apply below_alloc | apply pw_below_drewN | apply below_drew1 | refine below_set ?_ GE114.out) | exact HB.out)⟩⟩
         case rest =>
          clear HC22
          try clear c1
          try clear p1
          try clear q1
          try clear hx1
          try clear c2
          try clear p2
          try clear c3
          try clear c5
          try clear c5b0
          try clear c6
          try clear c6b0
          try clear c7
          try clear c7b0
          try clear c8
          try clear c8b0
          try clear p11
          try clear q11
          try clear hx11
          try clear c12
          try clear c12b0
          try clear c12b1
          try clear c14
          try clear c14b0
          try clear c16
          try clear c16b0
          try clear c16b1
          try clear c21
          try clear c23
          try clear c23b0
          try clear c23b1
          try clear hcz11_0
          try clear hcz11_1
          try clear hcz13_0
          try clear hcz13_1
          try clear hcz15_0
          try clear hcz15_1
          try clear hcz17_0
          try clear hcz17_1
          try clear hcz19_0
          try clear hcz19_1
          try clear hcz24_0
          try clear hcz24_1
          try clear hcz25_0
          try clear hcz25_1
          try clear hfz11_0
          try clear hfz11_1
          try clear hfz13_0
          try clear hfz13_1
          try clear hfz15_0
          try clear hfz15_1
          try clear hfz17_0
          try clear hfz17_1
          try clear hfz19_0
          try clear hfz19_1
          try clear hfz24_0
          try clear hfz24_1
          try clear hfz25_0
          try clear hfz25_1
          try clear hx113_0
          try clear hx113_1
          try clear p1
          try clear p11
          try clear p113
          try clear p2
          try clear q1
          try clear q11
          try clear q113
          obtain ⟨kq, x49_21, rfl, HA, HJ21, BK114, HB⟩ := hcut
          cases kq with
          | zero => exact absurd HA.out (by simp [spec_CleanRight.j3])
          | succ kj21 =>
           have H := HA.out
           clear HA
           simp only [spec_CleanRight.j3] at H
           by_cases c26 : x49_21 = true
           case neg =>
            replace c26 := Bool.eq_false_iff.mpr c26
            subst c26
            have H1 : (spec_CleanRight.l0 kj21 a2 a3 l0 (l0.length : Int) (wrap64 (x18_1 + 1))) = some r := by rw [if_neg (show ¬ (false = true) by decide)] at H; exact H
            clear H
            have H := H1
            clear H1
            have H' := Aside0.mk H
            clear H
            go_wp2
            go_roundg kj21
            case measure => have := HK1.out; have := HJ8.out; have := HK3.out; have := HJ21.out; omega
            case rel => exact ⟨(wrap64 (x18_1 + 1)), (by first | rfl | (simp; done) | (simp [*]; done)), H', ⟨by have := HK1.out; have := HJ8.out; have := HK3.out; have := HJ21.out; omega⟩, ⟨by repeat (first | (with_reducible first | exact HB.out | apply below_alloc | apply pw_below_drewN | apply below_drew1 | refine below_set ?_ GE114.out) | exact HB.out)⟩⟩
           subst c26
           have H1 : (if 0 ≤ x11_3 then (if x11_3 < (((rd_T34 l0 x18_1).f1).size : Int) then (if (bt ((rd_T34 l0 x18_1).f1) x11_3) > 126 then (some false) else (spec_CleanRight.l1 kj21 a2 a3 (wrap64 (x11_3 + 1)) l0 (l0.length : Int) x18_1 ((rd_T34 l0 x18_1).f0) ((rd_T34 l0 x18_1).f1))) else (none)) else (none)) = some r := by rw [if_pos rfl] at H; exact H
           clear H
           have H := H1
           clear H1
           by_cases c27 : 0 ≤ x11_3
           case neg =>
            rw [if_neg c27] at H
            exact absurd H (by simp)
           rw [if_pos c27] at H
           have c27b0 : decide (0 ≤ x11_3) = true := decide_eq_true c27
           clear c27
           by_cases c28 : x11_3 < (((rd_T34 l0 x18_1).f1).size : Int)
           case neg =>
            rw [if_neg c28] at H
            exact absurd H (by simp)
           rw [if_pos c28] at H
           have c28b0 : decide (x11_3 < (((rd_T34 l0 x18_1).f1).size : Int)) = true := decide_eq_true c28
           clear c28
           by_cases c30 : (bt ((rd_T34 l0 x18_1).f1) x11_3) > 126
           ·rw [if_pos c30] at H
            have c30b0 : decide (126 < (bt ((rd_T34 l0 x18_1).f1) x11_3)) = true := decide_eq_true c30
            clear c30
            obtain rfl := Option.some.inj H
            have hcz31_0 : wc.cell? ⟨gb114, 0, none⟩ = some (.int .i64 ((rd_T34 l0 x18_1).f0)) := (blk_cell BK114.out 0).trans rfl
            have hcz31_1 : wc.cell? ⟨gb114, 1, none⟩ = some (.string ((rd_T34 l0 x18_1).f1)) := (blk_cell BK114.out 1).trans rfl
            have hfz31_0 := blk_frozen BK114.out 0
            have hfz31_1 := blk_frozen BK114.out 1
            have p29 : 0 ≤ (x11_3 : Int) := of_decide_eq_true (by first | (with_reducible assumption) | assumption)
            have q29 : x11_3 < (((rd_T34 l0 x18_1).f1).size : Int) := of_decide_eq_true (by first | (with_reducible assumption) | assumption)
            have hx29 := bt_at ((rd_T34 l0 x18_1).f1) x11_3
            replace p29 := eq_true p29
            replace q29 := eq_true q29
            go_wp2
            go_ret
            exact ⟨by first | rfl | (simp [errW_none, errW_some] <;> rfl) | (simp [*, errW_none, errW_some] <;> rfl), by repeat (first | (with_reducible first | exact HB.out | apply below_alloc | apply pw_below_drewN | apply below_drew1 | refine below_set ?_ GE114.out) | exact HB.out)⟩
           rw [if_neg c30] at H
           have c30b0 : decide (126 < (bt ((rd_T34 l0 x18_1).f1) x11_3)) = false := decide_eq_false c30
           clear c30
           have H' := Aside0.mk H
           clear H
           have hcz32_0 : wc.cell? ⟨gb114, 0, none⟩ = some (.int .i64 ((rd_T34 l0 x18_1).f0)) := (blk_cell BK114.out 0).trans rfl
           have hcz32_1 : wc.cell? ⟨gb114, 1, none⟩ = some (.string ((rd_T34 l0 x18_1).f1)) := (blk_cell BK114.out 1).trans rfl
           have hfz32_0 := blk_frozen BK114.out 0
           have hfz32_1 := blk_frozen BK114.out 1
           have p29 : 0 ≤ (x11_3 : Int) := of_decide_eq_true (by first | (with_reducible assumption) | assumption)
           have q29 : x11_3 < (((rd_T34 l0 x18_1).f1).size : Int) := of_decide_eq_true (by first | (with_reducible assumption) | assumption)
           have hx29 := bt_at ((rd_T34 l0 x18_1).f1) x11_3
           replace p29 := eq_true p29
           replace q29 := eq_true q29
           go_wp2
           go_roundg kj21
           case measure => have := HK1.out; have := HJ8.out; have := HK3.out; have := HJ21.out; omega
           case rel => exact ⟨(wrap64 (x11_3 + 1)), (by first | rfl | (simp; done) | (simp [*]; done)), H', ⟨by have := HK1.out; have := HJ8.out; have := HK3.out; have := HJ21.out; omega⟩, ⟨by (with_reducible repeat (first | refine blk_drewN ?_ _ | refine blk_drew ?_ | refine blk_alloc ?_ _)); exact BK114.out⟩, ⟨by repeat (first | (with_reducible first | exact HB.out | apply below_alloc | apply pw_below_drewN | apply below_drew1 | refine below_set ?_ GE114.out) | exact HB.out)⟩⟩
end Go.Proofs.YtaabfadjemmibaaDoor.P