-- Written by a program of this session (wip/tools): the printer's text for functions of the seat YtaabfadjemmibaaDoor. Not trusted: Lean checks it.
import Derived.Test.YtaabfadjemmibaaDoorPx0
import Derived.Test.YtaabfadjemmibaaDoorPx1
import Derived.Test.YtaabfadjemmibaaDoorPx2
import Derived.Test.YtaabfadjemmibaaDoorPx4
import Derived.Test.YtaabfadjemmibaaDoorPx6
import Derived.Test.YtaabfadjemmibaaDoorXPlain
namespace Go.Proofs.YtaabfadjemmibaaDoor.P
open Go.RowKit Go.Proofs.YtaabfadjemmibaaDoorW.PrintWords Go.Proofs.YtaabfadjemmibaaDoorW.PrintLast Go.Proofs.YtaabfadjemmibaaDoorW.PrintMore
attribute [local go_sem] max2_int min2_int max_two min_two max_three min_three max_four min_four   -- for this text's walks alone
open Go.Proofs.YtaabfadjemmibaaDoorX
set_option linter.unusedVariables false
set_option linter.unusedSimpArgs false
attribute [local go_sem high] eqA26 eqA34
/-! ### impl_diffs: function 37 -/
def impl_diffs.l0 : Nat → List (S59) → List (S26) → Int → Int → Option ((List (S59)))
 | 0, _, _, _, _ => none
 | k + 1, x3, x6, x7, x8 => if x8 < x7 then (if 0 ≤ x8 then (if x8 < (x6.length : Int) then (if x3.length < 5864062014805 then (impl_diffs.l0 k (x3 ++ [(⟨IntKind.i8.wrap ((rd_T26 x6 x8).f0), (rd_T26 x6 x8).f1⟩ : S59)]) x6 x7 (wrap64 (x8 + 1))) else (none)) else (none)) else (none)) else (some x3)
def impl_diffs.f (k : Nat) (l0 : List (S26)) : Option ((List (S59))) := impl_diffs.l0 k ([] : List (S59)) l0 (l0.length : Int) 0
theorem impl_diffs.mono_l : ∀ k, (∀ y0 y1 y2 y3, LeO (impl_diffs.l0 k y0 y1 y2 y3) (impl_diffs.l0 (k + 1) y0 y1 y2 y3))
 | 0 => fun _ _ _ _ r h => by simp [impl_diffs.l0] at h
 | k + 1 => by
  have ih0 := impl_diffs.mono_l k
  ·intro y0 y1 y2 y3
   unfold impl_diffs.l0
   repeat' first
   | (with_reducible exact ih0 _ _ _ _)
   | (with_reducible exact LeO.refl _)
   | (with_reducible exact LeO.none _)
   | (with_reducible refine LeO.ite ?_ ?_)
   | (with_reducible refine LeO.bind ?_ (fun _ => ?_))
   | exact ih0 _ _ _ _
   | exact LeO.none _
   | refine LeO.ite ?_ ?_
   | refine LeO.bind ?_ (fun _ => ?_)
theorem impl_diffs.mono : ∀ a0 k, LeO (impl_diffs.f k a0) (impl_diffs.f (k + 1) a0) := by
 intro a0 k
 have ih0 := impl_diffs.mono_l k
 unfold impl_diffs.f
 repeat' first
   | (with_reducible exact ih0 _ _ _ _)
   | (with_reducible exact LeO.refl _)
   | (with_reducible exact LeO.none _)
   | (with_reducible refine LeO.ite ?_ ?_)
   | (with_reducible refine LeO.bind ?_ (fun _ => ?_))
   | exact ih0 _ _ _ _
   | exact LeO.none _
   | refine LeO.ite ?_ ?_
   | refine LeO.bind ?_ (fun _ => ?_)
set_option maxHeartbeats 8000000 in
set_option maxRecDepth 100000 in
theorem impl_diffs.calls (k : Nat) (A0 : Option Addr) (c0 : Nat) (l0 : List (S26)) (r : List (S59)) (w : World) (hr0 : Kd.C k26 w A0 l0.length l0) (hc0 : l0.length ≤ c0) (h : impl_diffs.f k l0 = some r) :
  Calls Tryd.prog 37 #[.slice A0 l0.length c0] w fun e w' => ∃ v0_ : Value, e = .returned (v0_) ∧ Kd.R k59 59 w' w.heap.size (fun _ => True) v0_ r ∧ Below w.heap.size w w' := by
 have hu26 := Tryd.underlying26
 have hu59 := Tryd.underlying59
 have HR0 := Aside0.mk hr0
 have HC0 := Aside0.mk hc0
 clear hr0 hc0
 have HB := Aside0.mk (Below.refl w.heap.size w)
 have H : (impl_diffs.l0 k ([] : List (S59)) l0 (l0.length : Int) 0) = some r := h
 clear h
 have H' := Aside0.mk H
 clear H
 go_enter Tryd.func37, Tryd.ntmps37
 go_wp2
 go_loopg [3, 8] k (fun kq v3 v8 w' => ∃ (x3_1 : List (S59)) (x8_1 : Int), v8 = .int .i64 x8_1 ∧ Aside0 (impl_diffs.l0 kq x3_1 l0 (l0.length : Int) x8_1 = some r) ∧ Aside0 (kq ≤ k) ∧ Aside0 (Kd.R k59 59 w' w.heap.size (fun _ => True) v3 x3_1) ∧ Aside0 (Below w.heap.size w w'))
 case atStart => exact ⟨(([] : List (S59))), (0), (by first | rfl | (simp; done) | (simp [*]; done)), H', ⟨Nat.le_refl _⟩, ⟨by first | exact Kd.R_nil _ _ _ _ _ | exact Kd.N_nil _ _ _ _ _ | exact Kd.V_nil _ _ _ _ _ | exact Kd.Q_nil _ _ _ _ _ | exact Kd.S_nil _ _ _ _ _⟩, ⟨by repeat (first | (with_reducible first | exact HB.out | apply below_alloc | apply pw_below_drewN | apply below_drew1) | exact HB.out)⟩⟩
 case round =>
  clear H'
  obtain ⟨x3_1, x8_1, rfl, HA, HK1, HO_3, HB⟩ := hrel
  cases gk with
  | zero => exact absurd HA.out (by simp [impl_diffs.l0])
  | succ k1 =>
   have H := HA.out
   clear HA
   simp only [impl_diffs.l0] at H
   by_cases c2 : x8_1 < (l0.length : Int)
   case neg =>
    rw [if_neg c2] at H
    have c2b0 : decide (x8_1 < (l0.length : Int)) = false := decide_eq_false c2
    clear c2
    obtain rfl := Option.some.inj H
    go_wp2
    go_ret
    exact ⟨_, by first | rfl | (simp [errW_none, errW_some] <;> rfl) | (simp [*, errW_none, errW_some] <;> rfl), by (with_reducible repeat (first | apply Kd.R_alloc | apply Kd.R_drewN | apply Kd.R_drew)); exact HO_3.out, by repeat (first | (with_reducible first | exact HB.out | apply below_alloc | apply pw_below_drewN | apply below_drew1) | exact HB.out)⟩
   rw [if_pos c2] at H
   have c2b0 : decide (x8_1 < (l0.length : Int)) = true := decide_eq_true c2
   clear c2
   by_cases c3 : 0 ≤ x8_1
   case neg =>
    rw [if_neg c3] at H
    exact absurd H (by simp)
   rw [if_pos c3] at H
   have c3b0 : decide (0 ≤ x8_1) = true := decide_eq_true c3
   clear c3
   by_cases c4 : x8_1 < (l0.length : Int)
   case neg =>
    rw [if_neg c4] at H
    exact absurd H (by simp)
   rw [if_pos c4] at H
   have c4b0 : decide (x8_1 < (l0.length : Int)) = true := decide_eq_true c4
   clear c4
   by_cases c5 : x3_1.length < 5864062014805
   case neg =>
    rw [if_neg c5] at H
    exact absurd H (by simp)
   rw [if_pos c5] at H
   have LMc5 := Aside0.mk c5
   clear c5
   obtain ⟨y191, hy191⟩ : ∃ y_ : List (S59), y_ = (x3_1 ++ [(⟨IntKind.i8.wrap ((rd_T26 l0 x8_1).f0), (rd_T26 l0 x8_1).f1⟩ : S59)]) := ⟨_, rfl⟩
   replace H : (impl_diffs.l0 k1 y191 l0 (l0.length : Int) (wrap64 (x8_1 + 1))) = some r := by first | (rw [hy191]; with_reducible exact H) | (have H2_ := (Option.bind_some _ _).symm.trans H; rw [hy191]; with_reducible exact H2_) | (have H2_ := (Option.bind_some _ _).symm.trans H; with_reducible exact H2_) | with_reducible exact H | (rw [hy191]; exact H) | exact H
   have Ny191 := Aside0.mk hy191
   clear hy191
   have H' := Aside0.mk H
   clear H
   have p189 : 0 ≤ (x8_1 : Int) := of_decide_eq_true (by first | (with_reducible assumption) | assumption)
   have q189 : x8_1 < (l0.length : Int) := of_decide_eq_true (by first | (with_reducible assumption) | assumption)
   obtain ⟨ad189, e189, hx189_0, hx189_1⟩ := at_T26 HR0.out x8_1 p189 q189
   cases e189
   replace hx189_0 := (HB.out.cell (World.block_lt_of_cell? w _ hx189_0)).trans hx189_0
   replace hx189_1 := (HB.out.cell (World.block_lt_of_cell? w _ hx189_1)).trans hx189_1
   replace p189 := eq_true p189
   replace q189 := eq_true q189
   go_wp2_with (first | ((with_reducible refine gate_dst (N := 5) rfl ?_); refine box_event ?hg (N := 5) ?hd (cs := #[.int .i64 0, .string (⟨#[]⟩ : ByteArray)]) (t := 26) ?hr ?_; (case hd => rfl); (case hg => rfl); (case hr => first | (go_simp; done) | (go_simp; rfl)); intro gb190 hg w6 hbox hb; have n0_ := Aside0.mk (Kd.R_below (by (with_reducible repeat (first | apply Kd.R_alloc | apply Kd.R_drewN | apply Kd.R_drew)); exact HO_3.out) hb); have n1_ := Aside0.mk (below_step (by repeat (first | (with_reducible first | exact HB.out | apply below_alloc | apply pw_below_drewN | apply below_drew1) | exact HB.out)) hb); have n2_ := Aside0.mk (hbox); have n3_ := Aside0.mk ((by rw [hg]; exact (below_size (by repeat (first | (with_reducible first | exact HB.out | apply below_alloc | apply pw_below_drewN | apply below_drew1) | exact HB.out))) : w.heap.size ≤ gb190)); have n4_ := Aside0.mk ((by rw [hg]; exact (below_size (by repeat (first | (with_reducible first | exact HB.out | apply below_alloc | apply pw_below_drewN | apply below_drew1) | exact HB.out))) : w.heap.size ≤ gb190)); clear HO_3; clear HB; have HO_3 := n0_; have HB := n1_; have BK190 := n2_; have GW190 := n3_; have GE190 := n4_; clear n0_ n1_ n2_ n3_ n4_; clear hb hbox hg; have hcz7_0 : w6.cell? ⟨gb190, 0, none⟩ = some (.int .i64 0) := (blk_cell BK190.out 0).trans rfl; have hcz7_1 : w6.cell? ⟨gb190, 1, none⟩ = some (.string (⟨#[]⟩ : ByteArray)) := (blk_cell BK190.out 1).trans rfl; have hfz7_0 := blk_frozen BK190.out 0; have hfz7_1 := blk_frozen BK190.out 1) | ((with_reducible refine gate_builtin (b := .append) (xs := #[.tmp 12, .tmp 19]) rfl ?_); at_builtin; refine Kd.R_append k59 (w0 := w) w.heap.size rfl (.tmp 12) (.tmp 19) 44 59 (.agg #[(.int .i8 0), (.string ⟨#[]⟩)]) 24 rfl Tryd.underlying44 info59 rfl (by decide) (by omega) u3 x3_1 (⟨IntKind.i8.wrap ((rd_T26 l0 x8_1).f0), (rd_T26 l0 x8_1).f1⟩ : S59) [.int .i8 (IntKind.i8.wrap ((rd_T26 l0 x8_1).f0)), .string ((rd_T26 l0 x8_1).f1)] (fun _ => True) (fun _ => False) rfl (by first | (go_simp; done) | (go_simp; rfl)) ?aP (fun _ hk => hk.elim) ?aF ?aO ?aB ?aS ?aL ?_; (case aP => exact k59_mkM _ _ _ (⟨IntKind.i8.wrap ((rd_T26 l0 x8_1).f0), (rd_T26 l0 x8_1).f1⟩ : S59)); (case aB => exact (by repeat (first | (with_reducible first | exact HB.out | apply below_alloc | apply pw_below_drewN | apply below_drew1 | refine below_set ?_ GE190.out) | exact HB.out))); (case aF => exact (fun _ _ => trivial)); (case aO => exact (by (with_reducible repeat (first | apply Kd.R_alloc | apply Kd.R_drewN | apply Kd.R_drew)); exact Kd.R_mono (Kd.R_far (p := ⟨gb190, 1, none⟩) (Kd.R_far (p := ⟨gb190, 0, none⟩) (Kd.R_types HO_3.out BK190.out (by decide)) (fun _ hk => hk.2) (.int .i64 ((rd_T26 l0 x8_1).f0))) (fun _ hk => hk.2) (.string ((rd_T26 l0 x8_1).f1))) (fun _ hk => trivial))); (case aS => exact (below_size (by repeat (first | (with_reducible first | exact HB.out | apply below_alloc | apply pw_below_drewN | apply below_drew1 | refine below_set ?_ GE190.out) | exact HB.out)))); (case aL => have := LMc5.out; omega); intro v192 w8 ho hb hg hat; rw [← Ny191.out] at ho; have n0_ := Aside0.mk (blk_grown (g := gb190) (o := .cells #[.int .i64 ((rd_T26 l0 x8_1).f0), .string ((rd_T26 l0 x8_1).f1)] 26 (0, 0)) (by (with_reducible repeat (first | refine blk_drewN ?_ _ | refine blk_drew ?_ | refine blk_alloc ?_ _)); refine blk_put (cs := #[.int .i64 ((rd_T26 l0 x8_1).f0), .string (⟨#[]⟩ : ByteArray)]) ?_ 1 _ rfl; (with_reducible repeat (first | refine blk_drewN ?_ _ | refine blk_drew ?_ | refine blk_alloc ?_ _)); refine blk_put (cs := #[.int .i64 0, .string (⟨#[]⟩ : ByteArray)]) ?_ 0 _ rfl; (with_reducible repeat (first | refine blk_drewN ?_ _ | refine blk_drew ?_ | refine blk_alloc ?_ _)); exact BK190.out) hg (Kd.R_ne HO_3.out BK190.out (by decide))); have n1_ := Aside0.mk (hb); have n2_ := Aside0.mk (ho); clear BK190; clear HB; clear HO_3; have BK190 := n0_; have HB := n1_; have HO193 := n2_; clear n0_ n1_ n2_; clear ho hb hg hat))
   go_roundg k1
   case measure => have := HK1.out; omega
   case rel => exact ⟨(y191), (wrap64 (x8_1 + 1)), (by first | rfl | (simp; done) | (simp [*]; done)), H', ⟨by have := HK1.out; omega⟩, ⟨by (with_reducible repeat (first | apply Kd.R_alloc | apply Kd.R_drewN | apply Kd.R_drew)); exact HO193.out⟩, ⟨by repeat (first | (with_reducible first | exact HB.out | apply below_alloc | apply pw_below_drewN | apply below_drew1 | refine below_set ?_ GE190.out) | exact HB.out)⟩⟩
/-! ### impl_CleanLossless: function 21 -/
def impl_CleanLossless.f (k : Nat) (l0 : List (S26)) : Option ((List (S26))) := (impl_plain.f).bind fun _ => ((impl_diffs.f k l0).bind fun t195 => ((diffmatchpatch_DiffMatchPatch_DiffCleanupSemanticLossless.f k t195).bind fun t198 => ((impl_back.f k t198).bind fun t201 => (some t201))))
theorem impl_CleanLossless.mono : ∀ a0 k, LeO (impl_CleanLossless.f k a0) (impl_CleanLossless.f (k + 1) a0) := by
 intro a0 k
 unfold impl_CleanLossless.f
 repeat' first
   | (with_reducible exact diffmatchpatch_DiffMatchPatch_DiffCleanupSemanticLossless.mono _ _)
   | (with_reducible exact impl_back.mono _ _)
   | (with_reducible exact impl_diffs.mono _ _)
   | (with_reducible exact LeO.refl _)
   | (with_reducible exact LeO.none _)
   | (with_reducible refine LeO.ite ?_ ?_)
   | (with_reducible refine LeO.bind ?_ (fun _ => ?_))
   | exact diffmatchpatch_DiffMatchPatch_DiffCleanupSemanticLossless.mono _ _
   | exact impl_back.mono _ _
   | exact impl_diffs.mono _ _
   | exact LeO.none _
   | refine LeO.ite ?_ ?_
   | refine LeO.bind ?_ (fun _ => ?_)
set_option maxHeartbeats 8000000 in
set_option maxRecDepth 100000 in
theorem impl_CleanLossless.calls (k : Nat) (A0 : Option Addr) (c0 : Nat) (l0 : List (S26)) (r : List (S26)) (w : World) (hG_ : Glob w) (hr0 : Kd.C k26 w A0 l0.length l0) (hc0 : l0.length ≤ c0) (h : impl_CleanLossless.f k l0 = some r) :
  Calls Tryd.prog 21 #[.slice A0 l0.length c0] w fun e w' => ∃ v0_ : Value, e = .returned (v0_) ∧ Kd.R k26 26 w' w.heap.size (fun _ => True) v0_ r ∧ Below w.heap.size w w' := by
 have HR0 := Aside0.mk hr0
 have HC0 := Aside0.mk hc0
 clear hr0 hc0
 have HB := Aside0.mk (Below.refl w.heap.size w)
 have H : ((impl_plain.f).bind fun _ => ((impl_diffs.f k l0).bind fun t195 => ((diffmatchpatch_DiffMatchPatch_DiffCleanupSemanticLossless.f k t195).bind fun t198 => ((impl_back.f k t198).bind fun t201 => (some t201))))) = some r := h
 clear h
 replace H := Option.bind_eq_some_iff.mp H
 obtain ⟨_, A20, H⟩ := H
 replace H : ((impl_diffs.f k l0).bind fun t195 => ((diffmatchpatch_DiffMatchPatch_DiffCleanupSemanticLossless.f k t195).bind fun t198 => ((impl_back.f k t198).bind fun t201 => (some t201)))) = some r := H
 have A2 := Aside0.mk A20
 clear A20
 replace H := Option.bind_eq_some_iff.mp H
 obtain ⟨t195, A30, H⟩ := H
 replace H : ((diffmatchpatch_DiffMatchPatch_DiffCleanupSemanticLossless.f k t195).bind fun t198 => ((impl_back.f k t198).bind fun t201 => (some t201))) = some r := H
 have A3 := Aside0.mk A30
 clear A30
 replace H := Option.bind_eq_some_iff.mp H
 obtain ⟨t198, A40, H⟩ := H
 replace H : ((impl_back.f k t198).bind fun t201 => (some t201)) = some r := H
 have A4 := Aside0.mk A40
 clear A40
 replace H := Option.bind_eq_some_iff.mp H
 obtain ⟨t201, A50, H⟩ := H
 replace H : (some t201) = some r := H
 have A5 := Aside0.mk A50
 clear A50
 obtain rfl := Option.some.inj H
 go_enter Tryd.func21, Tryd.ntmps21
 go_wp2_with (first | ((with_reducible refine gate_callee (f := 35) rfl ?_); refine goesL_ (some 3) rfl rfl Tryd.func35 (by kernel_rfl) rfl #[] rfl (by (try simp only [List.map_toArray, List.map_cons, List.map_nil]); first | done | rfl | (simp only [List.length_drop, List.length_take]; rfl)) ?_; (with_reducible refine (impl_plain.calls   _ A2.out).mono ?_); rintro e w6 ⟨v194, rfl, hb⟩; refine ⟨_, rfl, ?_⟩; have n0_ := Aside0.mk (below_step (by repeat (first | (with_reducible first | exact HB.out | apply below_alloc | apply pw_below_drewN | apply below_drew1) | exact HB.out)) hb); clear HB; have HB := n0_; clear n0_; (try clear hb); (try clear hb2); (try clear hk); (try clear hi)) | ((with_reducible refine gate_callee (f := 37) rfl ?_); refine goesL_ (some 5) rfl rfl Tryd.func37 (by kernel_rfl) rfl #[.slice A0 l0.length c0] rfl (by (try simp only [List.map_toArray, List.map_cons, List.map_nil]); first | done | rfl | (simp only [List.length_drop, List.length_take]; rfl)) ?_; (with_reducible refine (impl_diffs.calls k _ _ l0 t195 _ ?side1 ?side2 A3.out).mono ?_); (case side1 => repeat (first | exact (Kd.C_below HR0.out HB.out) | (with_reducible refine Kd.C_alloc ?_ _) | (with_reducible refine Kd.C_drewN ?_ _) | (with_reducible refine Kd.C_drew ?_))); (case side2 => exact HC0.out); rintro e w7 ⟨v196, rfl, ho0, hb⟩; refine ⟨_, rfl, ?_⟩; have n0_ := Aside0.mk (Kd.R_lower ho0 (below_size (by repeat (first | (with_reducible first | exact HB.out | apply below_alloc | apply pw_below_drewN | apply below_drew1) | exact HB.out)))); have n1_ := Aside0.mk (below_step (by repeat (first | (with_reducible first | exact HB.out | apply below_alloc | apply pw_below_drewN | apply below_drew1) | exact HB.out)) hb); clear HB; have HO197 := n0_; have HB := n1_; clear n0_ n1_; (try clear hb); (try clear hb2); (try clear hk); (try clear hi); (try clear ho0); obtain ⟨Ao8, co8, eo8⟩ := Kd.R_slice HO197.out; subst eo8) | ((with_reducible refine gate_callee (f := 36) rfl ?_); refine goesL_ (some 6) rfl rfl Tryd.func36 (by kernel_rfl) rfl #[v194, .slice Ao8 t195.length co8] rfl (by (try simp only [List.map_toArray, List.map_cons, List.map_nil]); first | done | rfl | (simp only [List.length_drop, List.length_take]; rfl)) ?_; (with_reducible refine (diffmatchpatch_DiffMatchPatch_DiffCleanupSemanticLossless.calls k v194 (fun k_ => some k_ = (.slice Ao8 t195.length co8 : Value).ownBlock) (.slice Ao8 t195.length co8) t195 t198 w _ ?side1 ?side2 ?side3 A4.out).mono ?_); (case side1 => repeat (first | (with_reducible first | exact HB.out | apply below_alloc | apply pw_below_drewN | apply below_drew1) | exact HB.out)); (case side2 => exact hG_); (case side3 => exact Kd.R_tight rfl HO197.out); rintro e w9 ⟨v199, rfl, ho0, hb, hkp⟩; refine ⟨_, rfl, ?_⟩; have n0_ := Aside0.mk (Kd.R_mono (ok' := fun k_ => True) ho0 (fun k_ hk_ => trivial)); have n1_ := Aside0.mk (hb); clear HB; clear HO197; have HO200 := n0_; have HB := n1_; clear n0_ n1_; (try clear hb); (try clear hkp); (try clear ho0); obtain ⟨Ao10, co10, eo10⟩ := Kd.R_slice HO200.out; subst eo10) | ((with_reducible refine gate_callee (f := 34) rfl ?_); refine goesL_ (some 7) rfl rfl Tryd.func34 (by kernel_rfl) rfl #[.slice Ao10 t198.length co10] rfl (by (try simp only [List.map_toArray, List.map_cons, List.map_nil]); first | done | rfl | (simp only [List.length_drop, List.length_take]; rfl)) ?_; (with_reducible refine (impl_back.calls k _ _ t198 t201 _ ?side1 ?side2 A5.out).mono ?_); (case side1 => repeat (first | exact (Kd.R_reads' HO200.out).2.2 | (with_reducible refine Kd.C_alloc ?_ _) | (with_reducible refine Kd.C_drewN ?_ _) | (with_reducible refine Kd.C_drew ?_))); (case side2 => exact (Kd.R_reads' HO200.out).2.1); rintro e w11 ⟨v202, rfl, ho0, hb⟩; refine ⟨_, rfl, ?_⟩; have n0_ := Aside0.mk (Kd.R_below (by (with_reducible repeat (first | apply Kd.R_alloc | apply Kd.R_drewN | apply Kd.R_drew)); exact HO200.out) hb); have n1_ := Aside0.mk (Kd.R_lower ho0 (below_size (by repeat (first | (with_reducible first | exact HB.out | apply below_alloc | apply pw_below_drewN | apply below_drew1) | exact HB.out)))); have n2_ := Aside0.mk (below_step (by repeat (first | (with_reducible first | exact HB.out | apply below_alloc | apply pw_below_drewN | apply below_drew1) | exact HB.out)) hb); clear HO200; clear HB; have HO200 := n0_; have HO203 := n1_; have HB := n2_; clear n0_ n1_ n2_; (try clear hb); (try clear hb2); (try clear hk); (try clear hi); (try clear ho0)))
 go_ret
 exact ⟨_, by first | rfl | (simp [errW_none, errW_some] <;> rfl) | (simp [*, errW_none, errW_some] <;> rfl), by (with_reducible repeat (first | apply Kd.R_alloc | apply Kd.R_drewN | apply Kd.R_drew)); exact HO203.out, by repeat (first | (with_reducible first | exact HB.out | apply below_alloc | apply pw_below_drewN | apply below_drew1) | exact HB.out)⟩
/-! ### laws_cleanAwake: function 18 -/
def laws_cleanAwake.f (k : Nat)  : Option (Bool) := (impl_CleanLossless.f k (([(⟨0, (⟨#[84, 104, 101, 32, 99]⟩ : ByteArray)⟩ : S26), (⟨1, (⟨#[97, 116, 32, 99]⟩ : ByteArray)⟩ : S26), (⟨0, (⟨#[97, 109, 101, 46]⟩ : ByteArray)⟩ : S26)] : List (S26)))).bind fun t207 => (if (t207.length : Int) = 3 then (if 0 < (t207.length : Int) then (if ((rd_T26 t207 0).f1).toList = ([84, 104, 101, 32] : List UInt8) then (if 1 < (t207.length : Int) then (if (((rd_T26 t207 1).f0) == 1 && ((((rd_T26 t207 1).f1).toList) == ([99, 97, 116, 32] : List UInt8))) = true then (if 2 < (t207.length : Int) then (some (((rd_T26 t207 2).f1).toList == ([99, 97, 109, 101, 46] : List UInt8))) else (none)) else (some false)) else (none)) else (some false)) else (none)) else (some false))
theorem laws_cleanAwake.mono : ∀ k, LeO (laws_cleanAwake.f k ) (laws_cleanAwake.f (k + 1) ) := by
 intro  k
 unfold laws_cleanAwake.f
 repeat' first
   | (with_reducible exact impl_CleanLossless.mono _ _)
   | (with_reducible exact LeO.refl _)
   | (with_reducible exact LeO.none _)
   | (with_reducible refine LeO.ite ?_ ?_)
   | (with_reducible refine LeO.bind ?_ (fun _ => ?_))
   | exact impl_CleanLossless.mono _ _
   | exact LeO.none _
   | refine LeO.ite ?_ ?_
   | refine LeO.bind ?_ (fun _ => ?_)
set_option maxHeartbeats 8000000 in
set_option maxRecDepth 100000 in
theorem laws_cleanAwake.calls (k : Nat)  (r : Bool) (w : World) (hG_ : Glob w) (h : laws_cleanAwake.f k  = some r) :
  Calls Tryd.prog 18 #[] w fun e w' => e = .returned (.bool r) ∧ Below w.heap.size w w' := by
 have hu26 := Tryd.underlying26
 have HB := Aside0.mk (Below.refl w.heap.size w)
 have H : ((impl_CleanLossless.f k (([(⟨0, (⟨#[84, 104, 101, 32, 99]⟩ : ByteArray)⟩ : S26), (⟨1, (⟨#[97, 116, 32, 99]⟩ : ByteArray)⟩ : S26), (⟨0, (⟨#[97, 109, 101, 46]⟩ : ByteArray)⟩ : S26)] : List (S26)))).bind fun t207 => (if (t207.length : Int) = 3 then (if 0 < (t207.length : Int) then (if ((rd_T26 t207 0).f1).toList = ([84, 104, 101, 32] : List UInt8) then (if 1 < (t207.length : Int) then (if (((rd_T26 t207 1).f0) == 1 && ((((rd_T26 t207 1).f1).toList) == ([99, 97, 116, 32] : List UInt8))) = true then (if 2 < (t207.length : Int) then (some (((rd_T26 t207 2).f1).toList == ([99, 97, 109, 101, 46] : List UInt8))) else (none)) else (some false)) else (none)) else (some false)) else (none)) else (some false))) = some r := h
 clear h
 obtain ⟨y204, hy204⟩ : ∃ y_ : List (S26), y_ = (([(⟨0, (⟨#[84, 104, 101, 32, 99]⟩ : ByteArray)⟩ : S26), (⟨1, (⟨#[97, 116, 32, 99]⟩ : ByteArray)⟩ : S26), (⟨0, (⟨#[97, 109, 101, 46]⟩ : ByteArray)⟩ : S26)] : List (S26))) := ⟨_, rfl⟩
 replace H : ((impl_CleanLossless.f k y204).bind fun t207 => (if (t207.length : Int) = 3 then (if 0 < (t207.length : Int) then (if ((rd_T26 t207 0).f1).toList = ([84, 104, 101, 32] : List UInt8) then (if 1 < (t207.length : Int) then (if (((rd_T26 t207 1).f0) == 1 && ((((rd_T26 t207 1).f1).toList) == ([99, 97, 116, 32] : List UInt8))) = true then (if 2 < (t207.length : Int) then (some (((rd_T26 t207 2).f1).toList == ([99, 97, 109, 101, 46] : List UInt8))) else (none)) else (some false)) else (none)) else (some false)) else (none)) else (some false))) = some r := by first | (rw [hy204]; with_reducible exact H) | (have H2_ := (Option.bind_some _ _).symm.trans H; rw [hy204]; with_reducible exact H2_) | (have H2_ := (Option.bind_some _ _).symm.trans H; with_reducible exact H2_) | with_reducible exact H | (rw [hy204]; exact H) | exact H
 have Ny204 := Aside0.mk hy204
 clear hy204
 replace H := Option.bind_eq_some_iff.mp H
 obtain ⟨t207, A10, H⟩ := H
 replace H : (if (t207.length : Int) = 3 then (if 0 < (t207.length : Int) then (if ((rd_T26 t207 0).f1).toList = ([84, 104, 101, 32] : List UInt8) then (if 1 < (t207.length : Int) then (if (((rd_T26 t207 1).f0) == 1 && ((((rd_T26 t207 1).f1).toList) == ([99, 97, 116, 32] : List UInt8))) = true then (if 2 < (t207.length : Int) then (some (((rd_T26 t207 2).f1).toList == ([99, 97, 109, 101, 46] : List UInt8))) else (none)) else (some false)) else (none)) else (some false)) else (none)) else (some false)) = some r := H
 have A1 := Aside0.mk A10
 clear A10
 by_cases c2 : (t207.length : Int) = 3
 case neg =>
  rw [if_neg c2] at H
  have c2b0 : ((t207.length : Int) == 3) = false := beq_eq_false_iff_ne.mpr c2
  have c2b1 : ((t207.length : Int) != 3) = true := bne_iff_ne.mpr c2
  obtain rfl := Option.some.inj H
  go_enter Tryd.func18, Tryd.ntmps18
  go_wp2_with (first | ((with_reducible refine gate_dst (N := 5) rfl ?_); refine Kd.R_lit k26 _ 26 ?hg (N := 5) ?hd (xs := ([(⟨0, (⟨#[84, 104, 101, 32, 99]⟩ : ByteArray)⟩ : S26), (⟨1, (⟨#[97, 116, 32, 99]⟩ : ByteArray)⟩ : S26), (⟨0, (⟨#[97, 109, 101, 46]⟩ : ByteArray)⟩ : S26)] : List (S26))) (inner := [.int .i64 0, .string (⟨#[84, 104, 101, 32, 99]⟩ : ByteArray), .int .i64 1, .string (⟨#[97, 116, 32, 99]⟩ : ByteArray), .int .i64 0, .string (⟨#[97, 109, 101, 46]⟩ : ByteArray)]) (ok := fun _ => True) (okp := fun _ => True) ?hr ?hp (fun _ hk => hk) trivial (Below.refl _ _) (Nat.le_refl _) (by simp) ?_; (case hd => rfl); (case hg => rfl); (case hr => first | (go_simp; done) | (go_simp; rfl)); (case hp => exact (Reps.c2 (show Kd.M k26 _ _ _ (⟨0, (⟨#[84, 104, 101, 32, 99]⟩ : ByteArray)⟩ : S26) [.int .i64 0, .string (⟨#[84, 104, 101, 32, 99]⟩ : ByteArray)] from (k26_mkM _ _ _ (⟨0, (⟨#[84, 104, 101, 32, 99]⟩ : ByteArray)⟩ : S26) )) (Reps.c2 (show Kd.M k26 _ _ _ (⟨1, (⟨#[97, 116, 32, 99]⟩ : ByteArray)⟩ : S26) [.int .i64 1, .string (⟨#[97, 116, 32, 99]⟩ : ByteArray)] from (k26_mkM _ _ _ (⟨1, (⟨#[97, 116, 32, 99]⟩ : ByteArray)⟩ : S26) )) (Reps.c2 (show Kd.M k26 _ _ _ (⟨0, (⟨#[97, 109, 101, 46]⟩ : ByteArray)⟩ : S26) [.int .i64 0, .string (⟨#[97, 109, 101, 46]⟩ : ByteArray)] from (k26_mkM _ _ _ (⟨0, (⟨#[97, 109, 101, 46]⟩ : ByteArray)⟩ : S26) )) (Reps.none _ _))))); intro v205 w23 ho24 hb hg_ hnew_; clear hg_ hnew_; (first | rw [← Ny204.out] at ho24 | (simp only [Int.reduceToNat] at ho24; rw [← Ny204.out] at ho24)); have n0_ := Aside0.mk (Kd.R_lower ho24 (below_size (by repeat (first | (with_reducible first | exact HB.out | apply below_alloc | apply pw_below_drewN | apply below_drew1) | exact HB.out)))); have n1_ := Aside0.mk (below_step (by repeat (first | (with_reducible first | exact HB.out | apply below_alloc | apply pw_below_drewN | apply below_drew1) | exact HB.out)) hb); clear HB; have HO206 := n0_; have HB := n1_; clear n0_ n1_; clear hb ho24; obtain ⟨Ao25, co25, eo25⟩ := Kd.R_slice HO206.out; subst eo25) | ((with_reducible refine gate_callee (f := 21) rfl ?_); refine goesL_ (some 6) rfl rfl Tryd.func21 (by kernel_rfl) rfl #[.slice Ao25 y204.length co25] rfl (by (try simp only [List.map_toArray, List.map_cons, List.map_nil]); first | done | rfl | (simp only [List.length_drop, List.length_take]; rfl)) ?_; (with_reducible refine (impl_CleanLossless.calls k _ _ y204 t207 _ ?side1 ?side2 ?side3 A1.out).mono ?_); (case side1 => exact Glob.below hG_ (by repeat (first | (with_reducible first | exact HB.out | apply below_alloc | apply pw_below_drewN | apply below_drew1) | exact HB.out))); (case side2 => repeat (first | exact (Kd.R_reads' HO206.out).2.2 | (with_reducible refine Kd.C_alloc ?_ _) | (with_reducible refine Kd.C_drewN ?_ _) | (with_reducible refine Kd.C_drew ?_))); (case side3 => exact (Kd.R_reads' HO206.out).2.1); rintro e w26 ⟨v208, rfl, ho0, hb⟩; refine ⟨_, rfl, ?_⟩; have n0_ := Aside0.mk (Kd.R_elder' (by (with_reducible repeat (first | apply Kd.R_alloc | apply Kd.R_drewN | apply Kd.R_drew)); exact HO206.out) (Kd.R_base ho0) hb); have n1_ := Aside0.mk (Kd.R_lower (Kd.R_new' ho0 (Kd.R_lt (by (with_reducible repeat (first | apply Kd.R_alloc | apply Kd.R_drewN | apply Kd.R_drew)); exact HO206.out))) (below_size (by repeat (first | (with_reducible first | exact HB.out | apply below_alloc | apply pw_below_drewN | apply below_drew1) | exact HB.out)))); have n2_ := Aside0.mk (below_step (by repeat (first | (with_reducible first | exact HB.out | apply below_alloc | apply pw_below_drewN | apply below_drew1) | exact HB.out)) hb); clear HO206; clear HB; have HO206 := n0_; have HO209 := n1_; have HB := n2_; clear n0_ n1_ n2_; (try clear hb); (try clear hb2); (try clear hk); (try clear hi); (try clear ho0); obtain ⟨Ao27, co27, eo27⟩ := Kd.R_slice HO209.out; subst eo27))
  go_ret
  exact ⟨by first | rfl | (simp [errW_none, errW_some] <;> rfl) | (simp [*, errW_none, errW_some] <;> rfl), by repeat (first | (with_reducible first | exact HB.out | apply below_alloc | apply pw_below_drewN | apply below_drew1) | exact HB.out)⟩
 rw [if_pos c2] at H
 have c2b0 : ((t207.length : Int) == 3) = true := beq_iff_eq.mpr c2
 have c2b1 : ((t207.length : Int) != 3) = false := bne_eq_false_iff_eq.mpr c2
 clear c2
 by_cases c3 : 0 < (t207.length : Int)
 case neg =>
  rw [if_neg c3] at H
  exact absurd H (by simp)
 rw [if_pos c3] at H
 have c3b0 : decide (0 < (t207.length : Int)) = true := decide_eq_true c3
 have c3b1 : decide (0 < t207.length) = true := decide_eq_true (by omega)
 clear c3
 by_cases c4 : ((rd_T26 t207 0).f1).toList = ([84, 104, 101, 32] : List UInt8)
 case neg =>
  rw [if_neg c4] at H
  have c4b0 : (((rd_T26 t207 0).f1).toList == ([84, 104, 101, 32] : List UInt8)) = false := beq_eq_false_iff_ne.mpr c4
  have c4b1 : (((rd_T26 t207 0).f1).toList != ([84, 104, 101, 32] : List UInt8)) = true := bne_iff_ne.mpr c4
  obtain rfl := Option.some.inj H
  go_enter Tryd.func18, Tryd.ntmps18
  go_wp2_with (first | ((with_reducible refine gate_dst (N := 5) rfl ?_); refine Kd.R_lit k26 _ 26 ?hg (N := 5) ?hd (xs := ([(⟨0, (⟨#[84, 104, 101, 32, 99]⟩ : ByteArray)⟩ : S26), (⟨1, (⟨#[97, 116, 32, 99]⟩ : ByteArray)⟩ : S26), (⟨0, (⟨#[97, 109, 101, 46]⟩ : ByteArray)⟩ : S26)] : List (S26))) (inner := [.int .i64 0, .string (⟨#[84, 104, 101, 32, 99]⟩ : ByteArray), .int .i64 1, .string (⟨#[97, 116, 32, 99]⟩ : ByteArray), .int .i64 0, .string (⟨#[97, 109, 101, 46]⟩ : ByteArray)]) (ok := fun _ => True) (okp := fun _ => True) ?hr ?hp (fun _ hk => hk) trivial (Below.refl _ _) (Nat.le_refl _) (by simp) ?_; (case hd => rfl); (case hg => rfl); (case hr => first | (go_simp; done) | (go_simp; rfl)); (case hp => exact (Reps.c2 (show Kd.M k26 _ _ _ (⟨0, (⟨#[84, 104, 101, 32, 99]⟩ : ByteArray)⟩ : S26) [.int .i64 0, .string (⟨#[84, 104, 101, 32, 99]⟩ : ByteArray)] from (k26_mkM _ _ _ (⟨0, (⟨#[84, 104, 101, 32, 99]⟩ : ByteArray)⟩ : S26) )) (Reps.c2 (show Kd.M k26 _ _ _ (⟨1, (⟨#[97, 116, 32, 99]⟩ : ByteArray)⟩ : S26) [.int .i64 1, .string (⟨#[97, 116, 32, 99]⟩ : ByteArray)] from (k26_mkM _ _ _ (⟨1, (⟨#[97, 116, 32, 99]⟩ : ByteArray)⟩ : S26) )) (Reps.c2 (show Kd.M k26 _ _ _ (⟨0, (⟨#[97, 109, 101, 46]⟩ : ByteArray)⟩ : S26) [.int .i64 0, .string (⟨#[97, 109, 101, 46]⟩ : ByteArray)] from (k26_mkM _ _ _ (⟨0, (⟨#[97, 109, 101, 46]⟩ : ByteArray)⟩ : S26) )) (Reps.none _ _))))); intro v205 w18 ho19 hb hg_ hnew_; clear hg_ hnew_; (first | rw [← Ny204.out] at ho19 | (simp only [Int.reduceToNat] at ho19; rw [← Ny204.out] at ho19)); have n0_ := Aside0.mk (Kd.R_lower ho19 (below_size (by repeat (first | (with_reducible first | exact HB.out | apply below_alloc | apply pw_below_drewN | apply below_drew1) | exact HB.out)))); have n1_ := Aside0.mk (below_step (by repeat (first | (with_reducible first | exact HB.out | apply below_alloc | apply pw_below_drewN | apply below_drew1) | exact HB.out)) hb); clear HB; have HO206 := n0_; have HB := n1_; clear n0_ n1_; clear hb ho19; obtain ⟨Ao20, co20, eo20⟩ := Kd.R_slice HO206.out; subst eo20) | ((with_reducible refine gate_callee (f := 21) rfl ?_); refine goesL_ (some 6) rfl rfl Tryd.func21 (by kernel_rfl) rfl #[.slice Ao20 y204.length co20] rfl (by (try simp only [List.map_toArray, List.map_cons, List.map_nil]); first | done | rfl | (simp only [List.length_drop, List.length_take]; rfl)) ?_; (with_reducible refine (impl_CleanLossless.calls k _ _ y204 t207 _ ?side1 ?side2 ?side3 A1.out).mono ?_); (case side1 => exact Glob.below hG_ (by repeat (first | (with_reducible first | exact HB.out | apply below_alloc | apply pw_below_drewN | apply below_drew1) | exact HB.out))); (case side2 => repeat (first | exact (Kd.R_reads' HO206.out).2.2 | (with_reducible refine Kd.C_alloc ?_ _) | (with_reducible refine Kd.C_drewN ?_ _) | (with_reducible refine Kd.C_drew ?_))); (case side3 => exact (Kd.R_reads' HO206.out).2.1); rintro e w21 ⟨v208, rfl, ho0, hb⟩; refine ⟨_, rfl, ?_⟩; have n0_ := Aside0.mk (Kd.R_elder' (by (with_reducible repeat (first | apply Kd.R_alloc | apply Kd.R_drewN | apply Kd.R_drew)); exact HO206.out) (Kd.R_base ho0) hb); have n1_ := Aside0.mk (Kd.R_lower (Kd.R_new' ho0 (Kd.R_lt (by (with_reducible repeat (first | apply Kd.R_alloc | apply Kd.R_drewN | apply Kd.R_drew)); exact HO206.out))) (below_size (by repeat (first | (with_reducible first | exact HB.out | apply below_alloc | apply pw_below_drewN | apply below_drew1) | exact HB.out)))); have n2_ := Aside0.mk (below_step (by repeat (first | (with_reducible first | exact HB.out | apply below_alloc | apply pw_below_drewN | apply below_drew1) | exact HB.out)) hb); clear HO206; clear HB; have HO206 := n0_; have HO209 := n1_; have HB := n2_; clear n0_ n1_ n2_; (try clear hb); (try clear hb2); (try clear hk); (try clear hi); (try clear ho0); obtain ⟨Ao22, co22, eo22⟩ := Kd.R_slice HO209.out; subst eo22; have p210 : 0 ≤ (0 : Int) := (by omega); have q210 : 0 < (t207.length : Int) := of_decide_eq_true (by first | (with_reducible assumption) | assumption); obtain ⟨ad210, e210, hx210_0, hx210_1⟩ := at_T26 (Kd.R_reads' HO209.out).2.2 0 p210 q210; cases e210; have qi210 : (0 < t207.length) = True := eq_true (by omega); (try rw [show ((0 : Int)).toNat = 0 from rfl] at hx210_0); (try rw [show 0 * 2 = 0 from rfl] at hx210_0); (try rw [Addr.add_zero'] at hx210_0); (try rw [show ((0 : Int)).toNat = 0 from rfl] at hx210_1); (try rw [show 0 * 2 = 0 from rfl] at hx210_1); (try rw [Addr.add_zero'] at hx210_1); replace p210 := eq_true p210; replace q210 := eq_true q210))
  go_ret
  exact ⟨by first | rfl | (simp [errW_none, errW_some] <;> rfl) | (simp [*, errW_none, errW_some] <;> rfl), by repeat (first | (with_reducible first | exact HB.out | apply below_alloc | apply pw_below_drewN | apply below_drew1) | exact HB.out)⟩
 rw [if_pos c4] at H
 have c4b0 : (((rd_T26 t207 0).f1).toList == ([84, 104, 101, 32] : List UInt8)) = true := beq_iff_eq.mpr c4
 have c4b1 : (((rd_T26 t207 0).f1).toList != ([84, 104, 101, 32] : List UInt8)) = false := bne_eq_false_iff_eq.mpr c4
 clear c4
 by_cases c5 : 1 < (t207.length : Int)
 case neg =>
  rw [if_neg c5] at H
  exact absurd H (by simp)
 rw [if_pos c5] at H
 have c5b0 : decide (1 < (t207.length : Int)) = true := decide_eq_true c5
 have c5b1 : decide (1 < t207.length) = true := decide_eq_true (by omega)
 clear c5
 by_cases c6 : (((rd_T26 t207 1).f0) == 1 && ((((rd_T26 t207 1).f1).toList) == ([99, 97, 116, 32] : List UInt8))) = true
 case neg =>
  rw [if_neg c6] at H
  have c6b0 : (((rd_T26 t207 1).f0) == 1 && ((((rd_T26 t207 1).f1).toList) == ([99, 97, 116, 32] : List UInt8))) = false := by simpa using c6
  (try (have c6b1 : decide (((rd_T26 t207 1).f0) = 1 && ((((rd_T26 t207 1).f1).toList) == ([99, 97, 116, 32] : List UInt8))) = false := by simpa using c6))
  (try (have c6b2 : (((rd_T26 t207 1).f0) == 1 && ((((rd_T26 t207 1).f1).toList) == ([99, 97, 116, 32] : List UInt8))) = false := by simpa using c6))
  (try (have c6b3 : ¬ (((rd_T26 t207 1).f0) = 1 && ((((rd_T26 t207 1).f1).toList) == ([99, 97, 116, 32] : List UInt8))) := by simpa using c6))
  clear c6
  obtain rfl := Option.some.inj H
  go_enter Tryd.func18, Tryd.ntmps18
  go_wp2_with (first | ((with_reducible refine gate_dst (N := 5) rfl ?_); refine Kd.R_lit k26 _ 26 ?hg (N := 5) ?hd (xs := ([(⟨0, (⟨#[84, 104, 101, 32, 99]⟩ : ByteArray)⟩ : S26), (⟨1, (⟨#[97, 116, 32, 99]⟩ : ByteArray)⟩ : S26), (⟨0, (⟨#[97, 109, 101, 46]⟩ : ByteArray)⟩ : S26)] : List (S26))) (inner := [.int .i64 0, .string (⟨#[84, 104, 101, 32, 99]⟩ : ByteArray), .int .i64 1, .string (⟨#[97, 116, 32, 99]⟩ : ByteArray), .int .i64 0, .string (⟨#[97, 109, 101, 46]⟩ : ByteArray)]) (ok := fun _ => True) (okp := fun _ => True) ?hr ?hp (fun _ hk => hk) trivial (Below.refl _ _) (Nat.le_refl _) (by simp) ?_; (case hd => rfl); (case hg => rfl); (case hr => first | (go_simp; done) | (go_simp; rfl)); (case hp => exact (Reps.c2 (show Kd.M k26 _ _ _ (⟨0, (⟨#[84, 104, 101, 32, 99]⟩ : ByteArray)⟩ : S26) [.int .i64 0, .string (⟨#[84, 104, 101, 32, 99]⟩ : ByteArray)] from (k26_mkM _ _ _ (⟨0, (⟨#[84, 104, 101, 32, 99]⟩ : ByteArray)⟩ : S26) )) (Reps.c2 (show Kd.M k26 _ _ _ (⟨1, (⟨#[97, 116, 32, 99]⟩ : ByteArray)⟩ : S26) [.int .i64 1, .string (⟨#[97, 116, 32, 99]⟩ : ByteArray)] from (k26_mkM _ _ _ (⟨1, (⟨#[97, 116, 32, 99]⟩ : ByteArray)⟩ : S26) )) (Reps.c2 (show Kd.M k26 _ _ _ (⟨0, (⟨#[97, 109, 101, 46]⟩ : ByteArray)⟩ : S26) [.int .i64 0, .string (⟨#[97, 109, 101, 46]⟩ : ByteArray)] from (k26_mkM _ _ _ (⟨0, (⟨#[97, 109, 101, 46]⟩ : ByteArray)⟩ : S26) )) (Reps.none _ _))))); intro v205 w13 ho14 hb hg_ hnew_; clear hg_ hnew_; (first | rw [← Ny204.out] at ho14 | (simp only [Int.reduceToNat] at ho14; rw [← Ny204.out] at ho14)); have n0_ := Aside0.mk (Kd.R_lower ho14 (below_size (by repeat (first | (with_reducible first | exact HB.out | apply below_alloc | apply pw_below_drewN | apply below_drew1) | exact HB.out)))); have n1_ := Aside0.mk (below_step (by repeat (first | (with_reducible first | exact HB.out | apply below_alloc | apply pw_below_drewN | apply below_drew1) | exact HB.out)) hb); clear HB; have HO206 := n0_; have HB := n1_; clear n0_ n1_; clear hb ho14; obtain ⟨Ao15, co15, eo15⟩ := Kd.R_slice HO206.out; subst eo15) | ((with_reducible refine gate_callee (f := 21) rfl ?_); refine goesL_ (some 6) rfl rfl Tryd.func21 (by kernel_rfl) rfl #[.slice Ao15 y204.length co15] rfl (by (try simp only [List.map_toArray, List.map_cons, List.map_nil]); first | done | rfl | (simp only [List.length_drop, List.length_take]; rfl)) ?_; (with_reducible refine (impl_CleanLossless.calls k _ _ y204 t207 _ ?side1 ?side2 ?side3 A1.out).mono ?_); (case side1 => exact Glob.below hG_ (by repeat (first | (with_reducible first | exact HB.out | apply below_alloc | apply pw_below_drewN | apply below_drew1) | exact HB.out))); (case side2 => repeat (first | exact (Kd.R_reads' HO206.out).2.2 | (with_reducible refine Kd.C_alloc ?_ _) | (with_reducible refine Kd.C_drewN ?_ _) | (with_reducible refine Kd.C_drew ?_))); (case side3 => exact (Kd.R_reads' HO206.out).2.1); rintro e w16 ⟨v208, rfl, ho0, hb⟩; refine ⟨_, rfl, ?_⟩; have n0_ := Aside0.mk (Kd.R_elder' (by (with_reducible repeat (first | apply Kd.R_alloc | apply Kd.R_drewN | apply Kd.R_drew)); exact HO206.out) (Kd.R_base ho0) hb); have n1_ := Aside0.mk (Kd.R_lower (Kd.R_new' ho0 (Kd.R_lt (by (with_reducible repeat (first | apply Kd.R_alloc | apply Kd.R_drewN | apply Kd.R_drew)); exact HO206.out))) (below_size (by repeat (first | (with_reducible first | exact HB.out | apply below_alloc | apply pw_below_drewN | apply below_drew1) | exact HB.out)))); have n2_ := Aside0.mk (below_step (by repeat (first | (with_reducible first | exact HB.out | apply below_alloc | apply pw_below_drewN | apply below_drew1) | exact HB.out)) hb); clear HO206; clear HB; have HO206 := n0_; have HO209 := n1_; have HB := n2_; clear n0_ n1_ n2_; (try clear hb); (try clear hb2); (try clear hk); (try clear hi); (try clear ho0); obtain ⟨Ao17, co17, eo17⟩ := Kd.R_slice HO209.out; subst eo17; have p210 : 0 ≤ (0 : Int) := (by omega); have q210 : 0 < (t207.length : Int) := of_decide_eq_true (by first | (with_reducible assumption) | assumption); obtain ⟨ad210, e210, hx210_0, hx210_1⟩ := at_T26 (Kd.R_reads' HO209.out).2.2 0 p210 q210; cases e210; have qi210 : (0 < t207.length) = True := eq_true (by omega); (try rw [show ((0 : Int)).toNat = 0 from rfl] at hx210_0); (try rw [show 0 * 2 = 0 from rfl] at hx210_0); (try rw [Addr.add_zero'] at hx210_0); (try rw [show ((0 : Int)).toNat = 0 from rfl] at hx210_1); (try rw [show 0 * 2 = 0 from rfl] at hx210_1); (try rw [Addr.add_zero'] at hx210_1); replace p210 := eq_true p210; replace q210 := eq_true q210; have p211 : 0 ≤ (1 : Int) := (by omega); have q211 : 1 < (t207.length : Int) := of_decide_eq_true (by first | (with_reducible assumption) | assumption); obtain ⟨ad211, e211, hx211_0, hx211_1⟩ := at_T26 (Kd.R_reads' HO209.out).2.2 1 p211 q211; obtain rfl : ad210 = ad211 := (by injection e211); (try simp only [show (1 : Int).toNat = 1 from rfl, Nat.reduceMul, Nat.reduceEqDiff, Go.Addr.add, ↓reduceIte] at hx211_0); (try simp only [show (1 : Int).toNat = 1 from rfl, Nat.reduceMul, Nat.reduceEqDiff, Go.Addr.add, ↓reduceIte] at hx211_1); have qi211 : (1 < t207.length) = True := eq_true (by omega); (try rw [show ((1 : Int)).toNat = 1 from rfl] at hx211_0); (try rw [show 1 * 2 = 2 from rfl] at hx211_0); (try rw [show ((1 : Int)).toNat = 1 from rfl] at hx211_1); (try rw [show 1 * 2 = 2 from rfl] at hx211_1); replace p211 := eq_true p211; replace q211 := eq_true q211))
  go_ret
  exact ⟨by first | rfl | (simp [errW_none, errW_some] <;> rfl) | (simp [*, errW_none, errW_some] <;> rfl), by repeat (first | (with_reducible first | exact HB.out | apply below_alloc | apply pw_below_drewN | apply below_drew1) | exact HB.out)⟩
 rw [if_pos c6] at H
 have c6b0 : (((rd_T26 t207 1).f0) == 1 && ((((rd_T26 t207 1).f1).toList) == ([99, 97, 116, 32] : List UInt8))) = true := c6
 (try (have c6b1 : decide (((rd_T26 t207 1).f0) = 1 && ((((rd_T26 t207 1).f1).toList) == ([99, 97, 116, 32] : List UInt8))) = true := by simpa using c6))
 (try (have c6b2 : (((rd_T26 t207 1).f0) == 1 && ((((rd_T26 t207 1).f1).toList) == ([99, 97, 116, 32] : List UInt8))) = true := by simpa using c6))
 clear c6
 by_cases c7 : 2 < (t207.length : Int)
 case neg =>
  rw [if_neg c7] at H
  exact absurd H (by simp)
 rw [if_pos c7] at H
 have c7b0 : decide (2 < (t207.length : Int)) = true := decide_eq_true c7
 have c7b1 : decide (2 < t207.length) = true := decide_eq_true (by omega)
 clear c7
 obtain rfl := Option.some.inj H
 go_enter Tryd.func18, Tryd.ntmps18
 go_wp2_with (first | ((with_reducible refine gate_dst (N := 5) rfl ?_); refine Kd.R_lit k26 _ 26 ?hg (N := 5) ?hd (xs := ([(⟨0, (⟨#[84, 104, 101, 32, 99]⟩ : ByteArray)⟩ : S26), (⟨1, (⟨#[97, 116, 32, 99]⟩ : ByteArray)⟩ : S26), (⟨0, (⟨#[97, 109, 101, 46]⟩ : ByteArray)⟩ : S26)] : List (S26))) (inner := [.int .i64 0, .string (⟨#[84, 104, 101, 32, 99]⟩ : ByteArray), .int .i64 1, .string (⟨#[97, 116, 32, 99]⟩ : ByteArray), .int .i64 0, .string (⟨#[97, 109, 101, 46]⟩ : ByteArray)]) (ok := fun _ => True) (okp := fun _ => True) ?hr ?hp (fun _ hk => hk) trivial (Below.refl _ _) (Nat.le_refl _) (by simp) ?_; (case hd => rfl); (case hg => rfl); (case hr => first | (go_simp; done) | (go_simp; rfl)); (case hp => exact (Reps.c2 (show Kd.M k26 _ _ _ (⟨0, (⟨#[84, 104, 101, 32, 99]⟩ : ByteArray)⟩ : S26) [.int .i64 0, .string (⟨#[84, 104, 101, 32, 99]⟩ : ByteArray)] from (k26_mkM _ _ _ (⟨0, (⟨#[84, 104, 101, 32, 99]⟩ : ByteArray)⟩ : S26) )) (Reps.c2 (show Kd.M k26 _ _ _ (⟨1, (⟨#[97, 116, 32, 99]⟩ : ByteArray)⟩ : S26) [.int .i64 1, .string (⟨#[97, 116, 32, 99]⟩ : ByteArray)] from (k26_mkM _ _ _ (⟨1, (⟨#[97, 116, 32, 99]⟩ : ByteArray)⟩ : S26) )) (Reps.c2 (show Kd.M k26 _ _ _ (⟨0, (⟨#[97, 109, 101, 46]⟩ : ByteArray)⟩ : S26) [.int .i64 0, .string (⟨#[97, 109, 101, 46]⟩ : ByteArray)] from (k26_mkM _ _ _ (⟨0, (⟨#[97, 109, 101, 46]⟩ : ByteArray)⟩ : S26) )) (Reps.none _ _))))); intro v205 w8 ho9 hb hg_ hnew_; clear hg_ hnew_; (first | rw [← Ny204.out] at ho9 | (simp only [Int.reduceToNat] at ho9; rw [← Ny204.out] at ho9)); have n0_ := Aside0.mk (Kd.R_lower ho9 (below_size (by repeat (first | (with_reducible first | exact HB.out | apply below_alloc | apply pw_below_drewN | apply below_drew1) | exact HB.out)))); have n1_ := Aside0.mk (below_step (by repeat (first | (with_reducible first | exact HB.out | apply below_alloc | apply pw_below_drewN | apply below_drew1) | exact HB.out)) hb); clear HB; have HO206 := n0_; have HB := n1_; clear n0_ n1_; clear hb ho9; obtain ⟨Ao10, co10, eo10⟩ := Kd.R_slice HO206.out; subst eo10) | ((with_reducible refine gate_callee (f := 21) rfl ?_); refine goesL_ (some 6) rfl rfl Tryd.func21 (by kernel_rfl) rfl #[.slice Ao10 y204.length co10] rfl (by (try simp only [List.map_toArray, List.map_cons, List.map_nil]); first | done | rfl | (simp only [List.length_drop, List.length_take]; rfl)) ?_; (with_reducible refine (impl_CleanLossless.calls k _ _ y204 t207 _ ?side1 ?side2 ?side3 A1.out).mono ?_); (case side1 => exact Glob.below hG_ (by repeat (first | (with_reducible first | exact HB.out | apply below_alloc | apply pw_below_drewN | apply below_drew1) | exact HB.out))); (case side2 => repeat (first | exact (Kd.R_reads' HO206.out).2.2 | (with_reducible refine Kd.C_alloc ?_ _) | (with_reducible refine Kd.C_drewN ?_ _) | (with_reducible refine Kd.C_drew ?_))); (case side3 => exact (Kd.R_reads' HO206.out).2.1); rintro e w11 ⟨v208, rfl, ho0, hb⟩; refine ⟨_, rfl, ?_⟩; have n0_ := Aside0.mk (Kd.R_elder' (by (with_reducible repeat (first | apply Kd.R_alloc | apply Kd.R_drewN | apply Kd.R_drew)); exact HO206.out) (Kd.R_base ho0) hb); have n1_ := Aside0.mk (Kd.R_lower (Kd.R_new' ho0 (Kd.R_lt (by (with_reducible repeat (first | apply Kd.R_alloc | apply Kd.R_drewN | apply Kd.R_drew)); exact HO206.out))) (below_size (by repeat (first | (with_reducible first | exact HB.out | apply below_alloc | apply pw_below_drewN | apply below_drew1) | exact HB.out)))); have n2_ := Aside0.mk (below_step (by repeat (first | (with_reducible first | exact HB.out | apply below_alloc | apply pw_below_drewN | apply below_drew1) | exact HB.out)) hb); clear HO206; clear HB; have HO206 := n0_; have HO209 := n1_; have HB := n2_; clear n0_ n1_ n2_; (try clear hb); (try clear hb2); (try clear hk); (try clear hi); (try clear ho0); obtain ⟨Ao12, co12, eo12⟩ := Kd.R_slice HO209.out; subst eo12; have p210 : 0 ≤ (0 : Int) := (by omega); have q210 : 0 < (t207.length : Int) := of_decide_eq_true (by first | (with_reducible assumption) | assumption); obtain ⟨ad210, e210, hx210_0, hx210_1⟩ := at_T26 (Kd.R_reads' HO209.out).2.2 0 p210 q210; cases e210; have qi210 : (0 < t207.length) = True := eq_true (by omega); (try rw [show ((0 : Int)).toNat = 0 from rfl] at hx210_0); (try rw [show 0 * 2 = 0 from rfl] at hx210_0); (try rw [Addr.add_zero'] at hx210_0); (try rw [show ((0 : Int)).toNat = 0 from rfl] at hx210_1); (try rw [show 0 * 2 = 0 from rfl] at hx210_1); (try rw [Addr.add_zero'] at hx210_1); replace p210 := eq_true p210; replace q210 := eq_true q210; have p211 : 0 ≤ (1 : Int) := (by omega); have q211 : 1 < (t207.length : Int) := of_decide_eq_true (by first | (with_reducible assumption) | assumption); obtain ⟨ad211, e211, hx211_0, hx211_1⟩ := at_T26 (Kd.R_reads' HO209.out).2.2 1 p211 q211; obtain rfl : ad210 = ad211 := (by injection e211); (try simp only [show (1 : Int).toNat = 1 from rfl, Nat.reduceMul, Nat.reduceEqDiff, Go.Addr.add, ↓reduceIte] at hx211_0); (try simp only [show (1 : Int).toNat = 1 from rfl, Nat.reduceMul, Nat.reduceEqDiff, Go.Addr.add, ↓reduceIte] at hx211_1); have qi211 : (1 < t207.length) = True := eq_true (by omega); (try rw [show ((1 : Int)).toNat = 1 from rfl] at hx211_0); (try rw [show 1 * 2 = 2 from rfl] at hx211_0); (try rw [show ((1 : Int)).toNat = 1 from rfl] at hx211_1); (try rw [show 1 * 2 = 2 from rfl] at hx211_1); replace p211 := eq_true p211; replace q211 := eq_true q211; have p212 : 0 ≤ (2 : Int) := (by omega); have q212 : 2 < (t207.length : Int) := of_decide_eq_true (by first | (with_reducible assumption) | assumption); obtain ⟨ad212, e212, hx212_0, hx212_1⟩ := at_T26 (Kd.R_reads' HO209.out).2.2 2 p212 q212; obtain rfl : ad210 = ad212 := (by injection e212); (try simp only [show (2 : Int).toNat = 2 from rfl, Nat.reduceMul, Nat.reduceEqDiff, Go.Addr.add, ↓reduceIte] at hx212_0); (try simp only [show (2 : Int).toNat = 2 from rfl, Nat.reduceMul, Nat.reduceEqDiff, Go.Addr.add, ↓reduceIte] at hx212_1); have qi212 : (2 < t207.length) = True := eq_true (by omega); (try rw [show ((2 : Int)).toNat = 2 from rfl] at hx212_0); (try rw [show 2 * 2 = 4 from rfl] at hx212_0); (try rw [show ((2 : Int)).toNat = 2 from rfl] at hx212_1); (try rw [show 2 * 2 = 4 from rfl] at hx212_1); replace p212 := eq_true p212; replace q212 := eq_true q212))
 go_ret
 exact ⟨by first | rfl | (simp [errW_none, errW_some] <;> rfl) | (simp [*, errW_none, errW_some] <;> rfl), by repeat (first | (with_reducible first | exact HB.out | apply below_alloc | apply pw_below_drewN | apply below_drew1) | exact HB.out)⟩
/-! ### spec_CleanSame: function 19 -/
def spec_CleanSame.l0 : Nat → List (S34) → List (S34) → Int → Int → Option (Bool)
 | 0, _, _, _, _ => none
 | k + 1, x0, x1, x12, x13 => if x13 < x12 then (if 0 ≤ x13 then (if x13 < (x0.length : Int) then (if x13 < (x1.length : Int) then (if (!(((rd_T34 x0 x13).f0) == ((rd_T34 x1 x13).f0)) || (!((((rd_T34 x0 x13).f1).toList) == (((rd_T34 x1 x13).f1).toList)))) = true then (some false) else (spec_CleanSame.l0 k x0 x1 x12 (wrap64 (x13 + 1)))) else (none)) else (none)) else (none)) else (some true)
def spec_CleanSame.f (k : Nat) (l0 : List (S34)) (l1 : List (S34)) : Option (Bool) := if (l0.length : Int) = (l1.length : Int) then (spec_CleanSame.l0 k l0 l1 (l0.length : Int) 0) else (some false)
theorem spec_CleanSame.mono_l : ∀ k, (∀ y0 y1 y2 y3, LeO (spec_CleanSame.l0 k y0 y1 y2 y3) (spec_CleanSame.l0 (k + 1) y0 y1 y2 y3))
 | 0 => fun _ _ _ _ r h => by simp [spec_CleanSame.l0] at h
 | k + 1 => by
  have ih0 := spec_CleanSame.mono_l k
  ·intro y0 y1 y2 y3
   unfold spec_CleanSame.l0
   repeat' first
   | (with_reducible exact ih0 _ _ _ _)
   | (with_reducible exact LeO.refl _)
   | (with_reducible exact LeO.none _)
   | (with_reducible refine LeO.ite ?_ ?_)
   | (with_reducible refine LeO.bind ?_ (fun _ => ?_))
   | exact ih0 _ _ _ _
   | exact LeO.none _
   | refine LeO.ite ?_ ?_
   | refine LeO.bind ?_ (fun _ => ?_)
theorem spec_CleanSame.mono : ∀ a0 a1 k, LeO (spec_CleanSame.f k a0 a1) (spec_CleanSame.f (k + 1) a0 a1) := by
 intro a0 a1 k
 have ih0 := spec_CleanSame.mono_l k
 unfold spec_CleanSame.f
 repeat' first
   | (with_reducible exact ih0 _ _ _ _)
   | (with_reducible exact LeO.refl _)
   | (with_reducible exact LeO.none _)
   | (with_reducible refine LeO.ite ?_ ?_)
   | (with_reducible refine LeO.bind ?_ (fun _ => ?_))
   | exact ih0 _ _ _ _
   | exact LeO.none _
   | refine LeO.ite ?_ ?_
   | refine LeO.bind ?_ (fun _ => ?_)
set_option maxHeartbeats 8000000 in
set_option maxRecDepth 100000 in
theorem spec_CleanSame.calls (k : Nat) (A0 : Option Addr) (c0 : Nat) (l0 : List (S34)) (A1 : Option Addr) (c1 : Nat) (l1 : List (S34)) (r : Bool) (w : World) (hr0 : Kd.C k34 w A0 l0.length l0) (hc0 : l0.length ≤ c0) (hr1 : Kd.C k34 w A1 l1.length l1) (hc1 : l1.length ≤ c1) (h : spec_CleanSame.f k l0 l1 = some r) :
  Calls Tryd.prog 19 #[.slice A0 l0.length c0, .slice A1 l1.length c1] w fun e w' => e = .returned (.bool r) ∧ Drawn0 w w' := by
 have hu34 := Tryd.underlying34
 have HR0 := Aside0.mk hr0
 have HC0 := Aside0.mk hc0
 clear hr0 hc0
 have HR1 := Aside0.mk hr1
 have HC1 := Aside0.mk hc1
 clear hr1 hc1
 have H : (if (l0.length : Int) = (l1.length : Int) then (spec_CleanSame.l0 k l0 l1 (l0.length : Int) 0) else (some false)) = some r := h
 clear h
 by_cases c3 : (l0.length : Int) = (l1.length : Int)
 case neg =>
  rw [if_neg c3] at H
  have c3b0 : ((l0.length : Int) == (l1.length : Int)) = false := beq_eq_false_iff_ne.mpr c3
  have c3b1 : ((l0.length : Int) != (l1.length : Int)) = true := bne_iff_ne.mpr c3
  have c3b2 : (l0.length == l1.length) = false := by first | simpa using c3 | (simp at c3 ⊢; omega)
  obtain rfl := Option.some.inj H
  go_enter Tryd.func19, Tryd.ntmps19
  go_wp2
  repeat (go_quiet (fail); try go_wp2)
  go_ret
  exact ⟨by first | rfl | (simp; done) | (simp [*]; done), by repeat (first | exact Drawn0.refl _ | apply Drawn0.step)⟩
 rw [if_pos c3] at H
 have c3b0 : ((l0.length : Int) == (l1.length : Int)) = true := beq_iff_eq.mpr c3
 have c3b1 : ((l0.length : Int) != (l1.length : Int)) = false := bne_eq_false_iff_eq.mpr c3
 have c3b2 : (l0.length == l1.length) = true := by first | simpa using c3 | (simp at c3 ⊢; omega)
 clear c3
 have H' := Aside0.mk H
 clear H
 go_enter Tryd.func19, Tryd.ntmps19
 go_wp2
 repeat (go_quiet (fail); try go_wp2)
 go_loopg [13] k (fun kq v13 w' => ∃ (x13_1 : Int), v13 = .int .i64 x13_1 ∧ Aside0 (spec_CleanSame.l0 kq l0 l1 (l0.length : Int) x13_1 = some r) ∧ Aside0 (kq ≤ k) ∧ Drawn0 w w')
 case atStart => exact ⟨(0), (by first | rfl | (simp; done) | (simp [*]; done)), H', ⟨Nat.le_refl _⟩, by repeat (first | exact Drawn0.refl _ | apply Drawn0.step)⟩
 case round =>
  clear H'
  try clear c1
  try clear p2
  try clear c3
  try clear c3b0
  try clear c3b1
  try clear c3b2
  obtain ⟨x13_1, rfl, HA, HK1, ⟨m1, rfl⟩⟩ := hrel
  cases gk with
  | zero => exact absurd HA.out (by simp [spec_CleanSame.l0])
  | succ k1 =>
   have H := HA.out
   clear HA
   simp only [spec_CleanSame.l0] at H
   by_cases c4 : x13_1 < (l0.length : Int)
   case neg =>
    rw [if_neg c4] at H
    have c4b0 : decide (x13_1 < (l0.length : Int)) = false := decide_eq_false c4
    clear c4
    obtain rfl := Option.some.inj H
    go_wp2
    repeat (go_quiet (fail); try go_wp2)
    go_ret
    exact ⟨by first | rfl | (simp; done) | (simp [*]; done), by repeat (first | exact Drawn0.refl _ | apply Drawn0.step)⟩
   rw [if_pos c4] at H
   have c4b0 : decide (x13_1 < (l0.length : Int)) = true := decide_eq_true c4
   clear c4
   by_cases c5 : 0 ≤ x13_1
   case neg =>
    rw [if_neg c5] at H
    exact absurd H (by simp)
   rw [if_pos c5] at H
   have c5b0 : decide (0 ≤ x13_1) = true := decide_eq_true c5
   clear c5
   by_cases c6 : x13_1 < (l0.length : Int)
   case neg =>
    rw [if_neg c6] at H
    exact absurd H (by simp)
   rw [if_pos c6] at H
   have c6b0 : decide (x13_1 < (l0.length : Int)) = true := decide_eq_true c6
   clear c6
   by_cases c7 : x13_1 < (l1.length : Int)
   case neg =>
    rw [if_neg c7] at H
    exact absurd H (by simp)
   rw [if_pos c7] at H
   have c7b0 : decide (x13_1 < (l1.length : Int)) = true := decide_eq_true c7
   clear c7
   by_cases c8 : (!(((rd_T34 l0 x13_1).f0) == ((rd_T34 l1 x13_1).f0)) || (!((((rd_T34 l0 x13_1).f1).toList) == (((rd_T34 l1 x13_1).f1).toList)))) = true
   ·rw [if_pos c8] at H
    have c8b0 : (!(((rd_T34 l0 x13_1).f0) == ((rd_T34 l1 x13_1).f0)) || (!((((rd_T34 l0 x13_1).f1).toList) == (((rd_T34 l1 x13_1).f1).toList)))) = true := c8
    clear c8
    obtain rfl := Option.some.inj H
    have p213 : 0 ≤ (x13_1 : Int) := of_decide_eq_true (by first | (with_reducible assumption) | assumption)
    have q213 : x13_1 < (l0.length : Int) := of_decide_eq_true (by first | (with_reducible assumption) | assumption)
    obtain ⟨ad213, e213, hx213_0, hx213_1⟩ := at_T34 HR0.out x13_1 p213 q213
    cases e213
    replace p213 := eq_true p213
    replace q213 := eq_true q213
    have p214 : 0 ≤ (x13_1 : Int) := of_decide_eq_true (by first | (with_reducible assumption) | assumption)
    have q214 : x13_1 < (l1.length : Int) := of_decide_eq_true (by first | (with_reducible assumption) | assumption)
    obtain ⟨ad214, e214, hx214_0, hx214_1⟩ := at_T34 HR1.out x13_1 p214 q214
    cases e214
    replace p214 := eq_true p214
    replace q214 := eq_true q214
    go_wp2
    repeat (go_quiet (fail); try go_wp2)
    go_ret
    exact ⟨by first | rfl | (simp; done) | (simp [*]; done), by repeat (first | exact Drawn0.refl _ | apply Drawn0.step)⟩
   rw [if_neg c8] at H
   have c8b0 : (!(((rd_T34 l0 x13_1).f0) == ((rd_T34 l1 x13_1).f0)) || (!((((rd_T34 l0 x13_1).f1).toList) == (((rd_T34 l1 x13_1).f1).toList)))) = false := by simpa using c8
   clear c8
   have H' := Aside0.mk H
   clear H
   have p213 : 0 ≤ (x13_1 : Int) := of_decide_eq_true (by first | (with_reducible assumption) | assumption)
   have q213 : x13_1 < (l0.length : Int) := of_decide_eq_true (by first | (with_reducible assumption) | assumption)
   obtain ⟨ad213, e213, hx213_0, hx213_1⟩ := at_T34 HR0.out x13_1 p213 q213
   cases e213
   replace p213 := eq_true p213
   replace q213 := eq_true q213
   have p214 : 0 ≤ (x13_1 : Int) := of_decide_eq_true (by first | (with_reducible assumption) | assumption)
   have q214 : x13_1 < (l1.length : Int) := of_decide_eq_true (by first | (with_reducible assumption) | assumption)
   obtain ⟨ad214, e214, hx214_0, hx214_1⟩ := at_T34 HR1.out x13_1 p214 q214
   cases e214
   replace p214 := eq_true p214
   replace q214 := eq_true q214
   go_wp2
   repeat (go_quiet (fail); try go_wp2)
   go_roundg k1
   case measure => have := HK1.out; omega
   case rel => exact ⟨(wrap64 (x13_1 + 1)), (by first | rfl | (simp; done) | (simp [*]; done)), H', ⟨by have := HK1.out; omega⟩, by repeat (first | exact Drawn0.refl _ | apply Drawn0.step)⟩
/-! ### laws_cleanOwn: function 22 -/
def laws_cleanOwn.f (l0 : List (S26)) : Option ((List (S26))) := if ([] : List (S26)).length + l0.length < 5864062014805 then (some (([] : List (S26)) ++ l0)) else (none)
set_option maxHeartbeats 8000000 in
set_option maxRecDepth 100000 in
theorem laws_cleanOwn.calls (A0 : Option Addr) (c0 : Nat) (l0 : List (S26)) (r : List (S26)) (w : World) (hr0 : Kd.C k26 w A0 l0.length l0) (hc0 : l0.length ≤ c0) (h : laws_cleanOwn.f l0 = some r) :
  Calls Tryd.prog 22 #[.slice A0 l0.length c0] w fun e w' => ∃ v0_ : Value, e = .returned (v0_) ∧ Kd.R k26 26 w' w.heap.size (fun _ => True) v0_ r ∧ Below w.heap.size w w' := by
 have HR0 := Aside0.mk hr0
 have HC0 := Aside0.mk hc0
 clear hr0 hc0
 have HB := Aside0.mk (Below.refl w.heap.size w)
 have H : (if ([] : List (S26)).length + l0.length < 5864062014805 then (some (([] : List (S26)) ++ l0)) else (none)) = some r := h
 clear h
 by_cases c2 : ([] : List (S26)).length + l0.length < 5864062014805
 case neg =>
  rw [if_neg c2] at H
  exact absurd H (by simp)
 rw [if_pos c2] at H
 have LMc2 := Aside0.mk c2
 clear c2
 obtain ⟨y215, hy215⟩ : ∃ y_ : List (S26), y_ = (([] : List (S26)) ++ l0) := ⟨_, rfl⟩
 replace H : (some y215) = some r := by first | (rw [hy215]; with_reducible exact H) | (have H2_ := (Option.bind_some _ _).symm.trans H; rw [hy215]; with_reducible exact H2_) | (have H2_ := (Option.bind_some _ _).symm.trans H; with_reducible exact H2_) | with_reducible exact H | (rw [hy215]; exact H) | exact H
 have Ny215 := Aside0.mk hy215
 clear hy215
 obtain rfl := Option.some.inj H
 go_enter Tryd.func22, Tryd.ntmps22
 go_wp2_with (first | ((with_reducible refine gate_builtin (b := .append) (xs := #[.const (.slice none 0 0), .tmp 3]) rfl ?_); at_builtin; refine Kd.R_append_rows k26 (w0 := w) w.heap.size rfl (.const (.slice none 0 0)) (.tmp 3) 22 26 (.agg #[(.int .i64 0), (.string ⟨#[]⟩)]) 24 rfl Tryd.underlying22 info26 rfl (by decide) (by omega) (.slice none 0 0) ([] : List (S26)) l0 _ _ _ (fun _ => True) (fun _ => False) rfl rfl ?aO ?aR (fun _ _ h => h) (fun _ h => h.elim) ?aF ?aB ?aS ?aL ?_; (case aR => repeat (first | exact HR0.out | (with_reducible refine Kd.C_alloc ?_ _) | (with_reducible refine Kd.C_drewN ?_ _) | (with_reducible refine Kd.C_drew ?_))); (case aB => exact (by repeat (first | (with_reducible first | exact HB.out | apply below_alloc | apply pw_below_drewN | apply below_drew1) | exact HB.out))); (case aF => exact (fun _ _ => trivial)); (case aO => exact ((Kd.R_nil _ _ _ _ (fun _ => True)))); (case aS => exact (below_size (by repeat (first | (with_reducible first | exact HB.out | apply below_alloc | apply pw_below_drewN | apply below_drew1) | exact HB.out)))); (case aL => have := LMc2.out; omega); intro v216 w3 ho hb hg hat; rw [← Ny215.out] at ho; have n0_ := Aside0.mk (hb); have n1_ := Aside0.mk (ho); clear HB; have HB := n0_; have HO217 := n1_; clear n0_ n1_; clear ho hb hg hat))
 go_ret
 exact ⟨_, by first | rfl | (simp [errW_none, errW_some] <;> rfl) | (simp [*, errW_none, errW_some] <;> rfl), by (with_reducible repeat (first | apply Kd.R_alloc | apply Kd.R_drewN | apply Kd.R_drew)); exact HO217.out, by repeat (first | (with_reducible first | exact HB.out | apply below_alloc | apply pw_below_drewN | apply below_drew1) | exact HB.out)⟩
end Go.Proofs.YtaabfadjemmibaaDoor.P