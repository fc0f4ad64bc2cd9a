-- Written by a program of this session (wip/tools): the printer's text for functions of the seat YtaabfadjemmibaaDoor. Not trusted: Lean checks it.
import Derived.Test.YtaabfadjemmibaaDoorPx0
import Derived.Test.YtaabfadjemmibaaDoorPx3
namespace Go.Proofs.YtaabfadjemmibaaDoor.P
open Go.RowKit Go.Proofs.YtaabfadjemmibaaDoorW.PrintWords Go.Proofs.YtaabfadjemmibaaDoorW.PrintLast Go.Proofs.YtaabfadjemmibaaDoorW.PrintMore
attribute [local go_sem] max2_int min2_int max_two min_two max_three min_three max_four min_four   -- for this text's walks alone
open Go.Proofs.YtaabfadjemmibaaDoorX
set_option linter.unusedVariables false
set_option linter.unusedSimpArgs false
/-! ### laws_cleanASCII: function 17 -/
def laws_cleanASCII.f (k : Nat) (l0 : List (S26)) : Option (Bool) := if (l0.length : Int) ≤ 12 then ((laws_cleanOf.f k l0).bind fun t116 => ((spec_CleanRight.f k t116 12 40 true).bind fun t119 => (some t119))) else (some false)
theorem laws_cleanASCII.mono : ∀ a0 k, LeO (laws_cleanASCII.f k a0) (laws_cleanASCII.f (k + 1) a0) := by
 intro a0 k
 unfold laws_cleanASCII.f
 repeat' first
   | (with_reducible exact laws_cleanOf.mono _ _)
   | (with_reducible exact spec_CleanRight.mono _ _ _ _ _)
   | (with_reducible exact LeO.refl _)
   | (with_reducible exact LeO.none _)
   | (with_reducible refine LeO.ite ?_ ?_)
   | (with_reducible refine LeO.bind ?_ (fun _ => ?_))
   | exact laws_cleanOf.mono _ _
   | exact spec_CleanRight.mono _ _ _ _ _
   | exact LeO.none _
   | refine LeO.ite ?_ ?_
   | refine LeO.bind ?_ (fun _ => ?_)
set_option maxHeartbeats 8000000 in
set_option maxRecDepth 100000 in
theorem laws_cleanASCII.calls (k : Nat) (A0 : Option Addr) (c0 : Nat) (l0 : List (S26)) (r : Bool) (w : World) (hr0 : Kd.C k26 w A0 l0.length l0) (hc0 : l0.length ≤ c0) (h : laws_cleanASCII.f k l0 = some r) :
  Calls Tryd.prog 17 #[.slice A0 l0.length c0] w fun e w' => e = .returned (.bool r) ∧ Below w.heap.size w w' := by
 have HR0 := Aside0.mk hr0
 have HC0 := Aside0.mk hc0
 clear hr0 hc0
 have HB := Aside0.mk (Below.refl w.heap.size w)
 have H : (if (l0.length : Int) ≤ 12 then ((laws_cleanOf.f k l0).bind fun t116 => ((spec_CleanRight.f k t116 12 40 true).bind fun t119 => (some t119))) else (some false)) = some r := h
 clear h
 by_cases c2 : (l0.length : Int) ≤ 12
 case neg =>
  rw [if_neg c2] at H
  have c2b0 : decide ((l0.length : Int) ≤ 12) = false := decide_eq_false c2
  have c2b1 : decide (l0.length ≤ 12) = false := decide_eq_false (by omega)
  clear c2
  obtain rfl := Option.some.inj H
  go_enter Tryd.func17, Tryd.ntmps17
  go_wp2
  go_ret
  exact ⟨by first | rfl | (simp [errW_none, errW_some] <;> rfl) | (simp [*, errW_none, errW_some] <;> rfl), by repeat (first | (with_reducible first | exact HB.out | apply below_alloc | apply pw_below_drewN | apply below_drew1) | exact HB.out)⟩
 rw [if_pos c2] at H
 have c2b0 : decide ((l0.length : Int) ≤ 12) = true := decide_eq_true c2
 have c2b1 : decide (l0.length ≤ 12) = true := decide_eq_true (by omega)
 clear c2
 replace H := Option.bind_eq_some_iff.mp H
 obtain ⟨t116, A30, H⟩ := H
 replace H : ((spec_CleanRight.f k t116 12 40 true).bind fun t119 => (some t119)) = some r := H
 have A3 := Aside0.mk A30
 clear A30
 replace H := Option.bind_eq_some_iff.mp H
 obtain ⟨t119, A40, H⟩ := H
 replace H : (some t119) = some r := H
 have A4 := Aside0.mk A40
 clear A40
 obtain rfl := Option.some.inj H
 go_enter Tryd.func17, Tryd.ntmps17
 go_wp2_with (first | (go_at_call 20; (with_reducible refine (laws_cleanOf.calls k _ _ l0 t116 _ ?side1 ?side2 A3.out).mono ?_); (case side1 => repeat (first | exact HR0.out | (with_reducible refine Kd.C_alloc ?_ _) | (with_reducible refine Kd.C_drewN ?_ _) | (with_reducible refine Kd.C_drew ?_))); (case side2 => exact HC0.out); rintro e w5 ⟨v117, rfl, ho0, hb⟩; have n0_ := Aside0.mk (Kd.R_lower ho0 (below_size (by repeat (first | (with_reducible first | exact HB.out | apply below_alloc | apply pw_below_drewN | apply below_drew1) | exact HB.out)))); have n1_ := Aside0.mk (below_step (by repeat (first | (with_reducible first | exact HB.out | apply below_alloc | apply pw_below_drewN | apply below_drew1) | exact HB.out)) hb); clear HB; have HO118 := n0_; have HB := n1_; clear n0_ n1_; (try clear hb); (try clear hb2); (try clear hk); (try clear hi); (try clear ho0); obtain ⟨Ao6, co6, eo6⟩ := Kd.R_slice HO118.out; subst eo6) | (go_at_call 33; (with_reducible refine (spec_CleanRight.calls k _ _ t116 12 40 true t119 _ ?side1 ?side2 A4.out).mono ?_); (case side1 => repeat (first | exact (Kd.R_reads' HO118.out).2.2 | (with_reducible refine Kd.C_alloc ?_ _) | (with_reducible refine Kd.C_drewN ?_ _) | (with_reducible refine Kd.C_drew ?_))); (case side2 => exact (Kd.R_reads' HO118.out).2.1); rintro e w7 ⟨rfl, hb⟩; have n0_ := Aside0.mk (Kd.R_below (by (with_reducible repeat (first | apply Kd.R_alloc | apply Kd.R_drewN | apply Kd.R_drew)); exact HO118.out) hb); have n1_ := Aside0.mk (below_step (by repeat (first | (with_reducible first | exact HB.out | apply below_alloc | apply pw_below_drewN | apply below_drew1) | exact HB.out)) hb); clear HO118; clear HB; have HO118 := n0_; have HB := n1_; clear n0_ n1_; (try clear hb); (try clear hb2); (try clear hk); (try clear hi)))
 go_ret
 exact ⟨by first | rfl | (simp [errW_none, errW_some] <;> rfl) | (simp [*, errW_none, errW_some] <;> rfl), by repeat (first | (with_reducible first | exact HB.out | apply below_alloc | apply pw_below_drewN | apply below_drew1) | exact HB.out)⟩
/-! ### impl_back: function 34 -/
def impl_back.l0 : Nat → List (S26) → List (S59) → Int → Int → Option ((List (S26)))
 | 0, _, _, _, _ => none
 | k + 1, x3, x6, x7, x8 => if x8 < x7 then (if 0 ≤ x8 then (if x8 < (x6.length : Int) then (if x3.length < 5864062014805 then (impl_back.l0 k (x3 ++ [(⟨wrap64 ((rd_T59 x6 x8).f0), (rd_T59 x6 x8).f1⟩ : S26)]) x6 x7 (wrap64 (x8 + 1))) else (none)) else (none)) else (none)) else (some x3)
def impl_back.f (k : Nat) (l0 : List (S59)) : Option ((List (S26))) := impl_back.l0 k ([] : List (S26)) l0 (l0.length : Int) 0
theorem impl_back.mono_l : ∀ k, (∀ y0 y1 y2 y3, LeO (impl_back.l0 k y0 y1 y2 y3) (impl_back.l0 (k + 1) y0 y1 y2 y3))
 | 0 => fun _ _ _ _ r h => by simp [impl_back.l0] at h
 | k + 1 => by
  have ih0 := impl_back.mono_l k
  ·intro y0 y1 y2 y3
   unfold impl_back.l0
   repeat' first
   | (with_reducible exact ih0 _ _ _ _)
   | (with_reducible exact LeO.refl _)
   | (with_reducible exact LeO.none _)
   | (with_reducible refine LeO.ite ?_ ?_)
   | (with_reducible refine LeO.bind ?_ (fun _ => ?_))
   | exact ih0 _ _ _ _
   | exact LeO.none _
   | refine LeO.ite ?_ ?_
   | refine LeO.bind ?_ (fun _ => ?_)
theorem impl_back.mono : ∀ a0 k, LeO (impl_back.f k a0) (impl_back.f (k + 1) a0) := by
 intro a0 k
 have ih0 := impl_back.mono_l k
 unfold impl_back.f
 repeat' first
   | (with_reducible exact ih0 _ _ _ _)
   | (with_reducible exact LeO.refl _)
   | (with_reducible exact LeO.none _)
   | (with_reducible refine LeO.ite ?_ ?_)
   | (with_reducible refine LeO.bind ?_ (fun _ => ?_))
   | exact ih0 _ _ _ _
   | exact LeO.none _
   | refine LeO.ite ?_ ?_
   | refine LeO.bind ?_ (fun _ => ?_)
set_option maxHeartbeats 8000000 in
set_option maxRecDepth 100000 in
theorem impl_back.calls (k : Nat) (A0 : Option Addr) (c0 : Nat) (l0 : List (S59)) (r : List (S26)) (w : World) (hr0 : Kd.C k59 w A0 l0.length l0) (hc0 : l0.length ≤ c0) (h : impl_back.f k l0 = some r) :
  Calls Tryd.prog 34 #[.slice A0 l0.length c0] w fun e w' => ∃ v0_ : Value, e = .returned (v0_) ∧ Kd.R k26 26 w' w.heap.size (fun _ => True) v0_ r ∧ Below w.heap.size w w' := by
 have hu59 := Tryd.underlying59
 have hu26 := Tryd.underlying26
 have HR0 := Aside0.mk hr0
 have HC0 := Aside0.mk hc0
 clear hr0 hc0
 have HB := Aside0.mk (Below.refl w.heap.size w)
 have H : (impl_back.l0 k ([] : List (S26)) l0 (l0.length : Int) 0) = some r := h
 clear h
 have H' := Aside0.mk H
 clear H
 go_enter Tryd.func34, Tryd.ntmps34
 go_wp2
 go_loopg [3, 8] k (fun kq v3 v8 w' => ∃ (x3_1 : List (S26)) (x8_1 : Int), v8 = .int .i64 x8_1 ∧ Aside0 (impl_back.l0 kq x3_1 l0 (l0.length : Int) x8_1 = some r) ∧ Aside0 (kq ≤ k) ∧ Aside0 (Kd.R k26 26 w' w.heap.size (fun _ => True) v3 x3_1) ∧ Aside0 (Below w.heap.size w w'))
 case atStart => exact ⟨(([] : List (S26))), (0), (by first | rfl | (simp; done) | (simp [*]; done)), H', ⟨Nat.le_refl _⟩, ⟨by first | exact Kd.R_nil _ _ _ _ _ | exact Kd.N_nil _ _ _ _ _ | exact Kd.V_nil _ _ _ _ _ | exact Kd.Q_nil _ _ _ _ _ | exact Kd.S_nil _ _ _ _ _⟩, ⟨by repeat (first | (with_reducible first | exact HB.out | apply below_alloc | apply pw_below_drewN | apply below_drew1) | exact HB.out)⟩⟩
 case round =>
  clear H'
  obtain ⟨x3_1, x8_1, rfl, HA, HK1, HO_3, HB⟩ := hrel
  cases gk with
  | zero => exact absurd HA.out (by simp [impl_back.l0])
  | succ k1 =>
   have H := HA.out
   clear HA
   simp only [impl_back.l0] at H
   by_cases c2 : x8_1 < (l0.length : Int)
   case neg =>
    rw [if_neg c2] at H
    have c2b0 : decide (x8_1 < (l0.length : Int)) = false := decide_eq_false c2
    clear c2
    obtain rfl := Option.some.inj H
    go_wp2
    go_ret
    exact ⟨_, by first | rfl | (simp [errW_none, errW_some] <;> rfl) | (simp [*, errW_none, errW_some] <;> rfl), by (with_reducible repeat (first | apply Kd.R_alloc | apply Kd.R_drewN | apply Kd.R_drew)); exact HO_3.out, by repeat (first | (with_reducible first | exact HB.out | apply below_alloc | apply pw_below_drewN | apply below_drew1) | exact HB.out)⟩
   rw [if_pos c2] at H
   have c2b0 : decide (x8_1 < (l0.length : Int)) = true := decide_eq_true c2
   clear c2
   by_cases c3 : 0 ≤ x8_1
   case neg =>
    rw [if_neg c3] at H
    exact absurd H (by simp)
   rw [if_pos c3] at H
   have c3b0 : decide (0 ≤ x8_1) = true := decide_eq_true c3
   clear c3
   by_cases c4 : x8_1 < (l0.length : Int)
   case neg =>
    rw [if_neg c4] at H
    exact absurd H (by simp)
   rw [if_pos c4] at H
   have c4b0 : decide (x8_1 < (l0.length : Int)) = true := decide_eq_true c4
   clear c4
   by_cases c5 : x3_1.length < 5864062014805
   case neg =>
    rw [if_neg c5] at H
    exact absurd H (by simp)
   rw [if_pos c5] at H
   have LMc5 := Aside0.mk c5
   clear c5
   obtain ⟨y122, hy122⟩ : ∃ y_ : List (S26), y_ = (x3_1 ++ [(⟨wrap64 ((rd_T59 l0 x8_1).f0), (rd_T59 l0 x8_1).f1⟩ : S26)]) := ⟨_, rfl⟩
   replace H : (impl_back.l0 k1 y122 l0 (l0.length : Int) (wrap64 (x8_1 + 1))) = some r := by first | (rw [hy122]; with_reducible exact H) | (have H2_ := (Option.bind_some _ _).symm.trans H; rw [hy122]; with_reducible exact H2_) | (have H2_ := (Option.bind_some _ _).symm.trans H; with_reducible exact H2_) | with_reducible exact H | (rw [hy122]; exact H) | exact H
   have Ny122 := Aside0.mk hy122
   clear hy122
   have H' := Aside0.mk H
   clear H
   have p120 : 0 ≤ (x8_1 : Int) := of_decide_eq_true (by first | (with_reducible assumption) | assumption)
   have q120 : x8_1 < (l0.length : Int) := of_decide_eq_true (by first | (with_reducible assumption) | assumption)
   obtain ⟨ad120, e120, hx120_0, hx120_1⟩ := at_T59 HR0.out x8_1 p120 q120
   cases e120
   replace hx120_0 := (HB.out.cell (World.block_lt_of_cell? w _ hx120_0)).trans hx120_0
   replace hx120_1 := (HB.out.cell (World.block_lt_of_cell? w _ hx120_1)).trans hx120_1
   replace p120 := eq_true p120
   replace q120 := eq_true q120
   go_wp2_with (first | ((with_reducible refine gate_dst (N := 5) rfl ?_); refine box_event ?hg (N := 5) ?hd (cs := #[.int .i8 0, .string (⟨#[]⟩ : ByteArray)]) (t := 59) ?hr ?_; (case hd => rfl); (case hg => rfl); (case hr => first | (go_simp; done) | (go_simp; rfl)); intro gb121 hg w6 hbox hb; have n0_ := Aside0.mk (Kd.R_below (by (with_reducible repeat (first | apply Kd.R_alloc | apply Kd.R_drewN | apply Kd.R_drew)); exact HO_3.out) hb); have n1_ := Aside0.mk (below_step (by repeat (first | (with_reducible first | exact HB.out | apply below_alloc | apply pw_below_drewN | apply below_drew1) | exact HB.out)) hb); have n2_ := Aside0.mk (hbox); have n3_ := Aside0.mk ((by rw [hg]; exact (below_size (by repeat (first | (with_reducible first | exact HB.out | apply below_alloc | apply pw_below_drewN | apply below_drew1) | exact HB.out))) : w.heap.size ≤ gb121)); have n4_ := Aside0.mk ((by rw [hg]; exact (below_size (by repeat (first | (with_reducible first | exact HB.out | apply below_alloc | apply pw_below_drewN | apply below_drew1) | exact HB.out))) : w.heap.size ≤ gb121)); clear HO_3; clear HB; have HO_3 := n0_; have HB := n1_; have BK121 := n2_; have GW121 := n3_; have GE121 := n4_; clear n0_ n1_ n2_ n3_ n4_; clear hb hbox hg; have hcz7_0 : w6.cell? ⟨gb121, 0, none⟩ = some (.int .i8 0) := (blk_cell BK121.out 0).trans rfl; have hcz7_1 : w6.cell? ⟨gb121, 1, none⟩ = some (.string (⟨#[]⟩ : ByteArray)) := (blk_cell BK121.out 1).trans rfl; have hfz7_0 := blk_frozen BK121.out 0; have hfz7_1 := blk_frozen BK121.out 1) | ((with_reducible refine gate_builtin (b := .append) (xs := #[.tmp 12, .tmp 19]) rfl ?_); at_builtin; refine Kd.R_append k26 (w0 := w) w.heap.size rfl (.tmp 12) (.tmp 19) 22 26 (.agg #[(.int .i64 0), (.string ⟨#[]⟩)]) 24 rfl Tryd.underlying22 info26 rfl (by decide) (by omega) u3 x3_1 (⟨wrap64 ((rd_T59 l0 x8_1).f0), (rd_T59 l0 x8_1).f1⟩ : S26) [.int .i64 (wrap64 ((rd_T59 l0 x8_1).f0)), .string ((rd_T59 l0 x8_1).f1)] (fun _ => True) (fun _ => False) rfl (by first | (go_simp; done) | (go_simp; rfl)) ?aP (fun _ hk => hk.elim) ?aF ?aO ?aB ?aS ?aL ?_; (case aP => exact k26_mkM _ _ _ (⟨wrap64 ((rd_T59 l0 x8_1).f0), (rd_T59 l0 x8_1).f1⟩ : S26)); (case aB => exact (by repeat (first | (with_reducible first | exact HB.out | apply below_alloc | apply pw_below_drewN | apply below_drew1 | refine below_set ?_ GE121.out) | exact HB.out))); (case aF => exact (fun _ _ => trivial)); (case aO => exact (by (with_reducible repeat (first | apply Kd.R_alloc | apply Kd.R_drewN | apply Kd.R_drew)); exact Kd.R_mono (Kd.R_far (p := ⟨gb121, 1, none⟩) (Kd.R_far (p := ⟨gb121, 0, none⟩) (Kd.R_types HO_3.out BK121.out (by decide)) (fun _ hk => hk.2) (.int .i8 ((rd_T59 l0 x8_1).f0))) (fun _ hk => hk.2) (.string ((rd_T59 l0 x8_1).f1))) (fun _ hk => trivial))); (case aS => exact (below_size (by repeat (first | (with_reducible first | exact HB.out | apply below_alloc | apply pw_below_drewN | apply below_drew1 | refine below_set ?_ GE121.out) | exact HB.out)))); (case aL => have := LMc5.out; omega); intro v123 w8 ho hb hg hat; rw [← Ny122.out] at ho; have n0_ := Aside0.mk (blk_grown (g := gb121) (o := .cells #[.int .i8 ((rd_T59 l0 x8_1).f0), .string ((rd_T59 l0 x8_1).f1)] 59 (0, 0)) (by (with_reducible repeat (first | refine blk_drewN ?_ _ | refine blk_drew ?_ | refine blk_alloc ?_ _)); refine blk_put (cs := #[.int .i8 ((rd_T59 l0 x8_1).f0), .string (⟨#[]⟩ : ByteArray)]) ?_ 1 _ rfl; (with_reducible repeat (first | refine blk_drewN ?_ _ | refine blk_drew ?_ | refine blk_alloc ?_ _)); refine blk_put (cs := #[.int .i8 0, .string (⟨#[]⟩ : ByteArray)]) ?_ 0 _ rfl; (with_reducible repeat (first | refine blk_drewN ?_ _ | refine blk_drew ?_ | refine blk_alloc ?_ _)); exact BK121.out) hg (Kd.R_ne HO_3.out BK121.out (by decide))); have n1_ := Aside0.mk (hb); have n2_ := Aside0.mk (ho); clear BK121; clear HB; clear HO_3; have BK121 := n0_; have HB := n1_; have HO124 := n2_; clear n0_ n1_ n2_; clear ho hb hg hat))
   go_roundg k1
   case measure => have := HK1.out; omega
   case rel => exact ⟨(y122), (wrap64 (x8_1 + 1)), (by first | rfl | (simp; done) | (simp [*]; done)), H', ⟨by have := HK1.out; omega⟩, ⟨by (with_reducible repeat (first | apply Kd.R_alloc | apply Kd.R_drewN | apply Kd.R_drew)); exact HO124.out⟩, ⟨by repeat (first | (with_reducible first | exact HB.out | apply below_alloc | apply pw_below_drewN | apply below_drew1 | refine below_set ?_ GE121.out) | exact HB.out)⟩⟩
/-! ### diffmatchpatch_commonSuffixLength: function 51 -/
def diffmatchpatch_commonSuffixLength.l0 : Nat → List Int → List Int → Int → Int → Int → Option (Int)
 | 0, _, _, _, _, _ => none
 | k + 1, x0, x1, x5, x6, x7 => if (wrap64 (x5 - 1)) < 0 then (some x7) else (if (wrap64 (x6 - 1)) < 0 then (some x7) else (if 0 ≤ (wrap64 (x5 - 1)) then (if (wrap64 (x5 - 1)) < (x0.length : Int) then (if 0 ≤ (wrap64 (x6 - 1)) then (if (wrap64 (x6 - 1)) < (x1.length : Int) then (if (rd x0 (wrap64 (x5 - 1))) = (rd x1 (wrap64 (x6 - 1))) then (diffmatchpatch_commonSuffixLength.l0 k x0 x1 (wrap64 (x5 - 1)) (wrap64 (x6 - 1)) (wrap64 (x7 + 1))) else (some x7)) else (none)) else (none)) else (none)) else (none)))
def diffmatchpatch_commonSuffixLength.f (k : Nat) (l0 : List Int) (l1 : List Int) : Option (Int) := diffmatchpatch_commonSuffixLength.l0 k l0 l1 (l0.length : Int) (l1.length : Int) 0
theorem diffmatchpatch_commonSuffixLength.mono_l : ∀ k, (∀ y0 y1 y2 y3 y4, LeO (diffmatchpatch_commonSuffixLength.l0 k y0 y1 y2 y3 y4) (diffmatchpatch_commonSuffixLength.l0 (k + 1) y0 y1 y2 y3 y4))
 | 0 => fun _ _ _ _ _ r h => by simp [diffmatchpatch_commonSuffixLength.l0] at h
 | k + 1 => by
  have ih0 := diffmatchpatch_commonSuffixLength.mono_l k
  ·intro y0 y1 y2 y3 y4
   unfold diffmatchpatch_commonSuffixLength.l0
   repeat' first
   | (with_reducible exact ih0 _ _ _ _ _)
   | (with_reducible exact LeO.refl _)
   | (with_reducible exact LeO.none _)
   | (with_reducible refine LeO.ite ?_ ?_)
   | (with_reducible refine LeO.bind ?_ (fun _ => ?_))
   | exact ih0 _ _ _ _ _
   | exact LeO.none _
   | refine LeO.ite ?_ ?_
   | refine LeO.bind ?_ (fun _ => ?_)
theorem diffmatchpatch_commonSuffixLength.mono : ∀ a0 a1 k, LeO (diffmatchpatch_commonSuffixLength.f k a0 a1) (diffmatchpatch_commonSuffixLength.f (k + 1) a0 a1) := by
 intro a0 a1 k
 have ih0 := diffmatchpatch_commonSuffixLength.mono_l k
 unfold diffmatchpatch_commonSuffixLength.f
 repeat' first
   | (with_reducible exact ih0 _ _ _ _ _)
   | (with_reducible exact LeO.refl _)
   | (with_reducible exact LeO.none _)
   | (with_reducible refine LeO.ite ?_ ?_)
   | (with_reducible refine LeO.bind ?_ (fun _ => ?_))
   | exact ih0 _ _ _ _ _
   | exact LeO.none _
   | refine LeO.ite ?_ ?_
   | refine LeO.bind ?_ (fun _ => ?_)
set_option maxHeartbeats 8000000 in
set_option maxRecDepth 100000 in
theorem diffmatchpatch_commonSuffixLength.calls (k : Nat) (A0 : Option Addr) (c0 : Nat) (l0 : List Int) (A1 : Option Addr) (c1 : Nat) (l1 : List Int) (r : Int) (w : World) (hr0 : Kd.C (Kd.int .i32) w A0 l0.length l0) (hc0 : l0.length ≤ c0) (hr1 : Kd.C (Kd.int .i32) w A1 l1.length l1) (hc1 : l1.length ≤ c1) (h : diffmatchpatch_commonSuffixLength.f k l0 l1 = some r) :
  Calls Tryd.prog 51 #[.slice A0 l0.length c0, .slice A1 l1.length c1] w fun e w' => e = .returned (.int .i64 r) ∧ Drawn0 w w' := by
 have HR0 := Aside0.mk hr0
 have HC0 := Aside0.mk hc0
 clear hr0 hc0
 have HR1 := Aside0.mk hr1
 have HC1 := Aside0.mk hc1
 clear hr1 hc1
 have H : (diffmatchpatch_commonSuffixLength.l0 k l0 l1 (l0.length : Int) (l1.length : Int) 0) = some r := h
 clear h
 have H' := Aside0.mk H
 clear H
 go_enter Tryd.func51, Tryd.ntmps51
 go_wp2
 repeat (go_quiet (fail); try go_wp2)
 go_loopg [5, 6, 7] k (fun kq v5 v6 v7 w' => ∃ (x5_1 : Int) (x6_1 : Int) (x7_1 : Int), v5 = .int .i64 x5_1 ∧ v6 = .int .i64 x6_1 ∧ v7 = .int .i64 x7_1 ∧ Aside0 (diffmatchpatch_commonSuffixLength.l0 kq l0 l1 x5_1 x6_1 x7_1 = some r) ∧ Aside0 (kq ≤ k) ∧ Drawn0 w w')
 case atStart => exact ⟨((l0.length : Int)), ((l1.length : Int)), (0), (by first | rfl | (simp; done) | (simp [*]; done)), (by first | rfl | (simp; done) | (simp [*]; done)), (by first | rfl | (simp; done) | (simp [*]; done)), H', ⟨Nat.le_refl _⟩, by repeat (first | exact Drawn0.refl _ | apply Drawn0.step)⟩
 case round =>
  clear H'
  try clear c1
  try clear p2
  obtain ⟨x5_1, x6_1, x7_1, rfl, rfl, rfl, HA, HK1, ⟨m1, rfl⟩⟩ := hrel
  cases gk with
  | zero => exact absurd HA.out (by simp [diffmatchpatch_commonSuffixLength.l0])
  | succ k1 =>
   have H := HA.out
   clear HA
   simp only [diffmatchpatch_commonSuffixLength.l0] at H
   by_cases c3 : (wrap64 (x5_1 - 1)) < 0
   ·rw [if_pos c3] at H
    have c3b0 : decide ((wrap64 (x5_1 - 1)) < 0) = true := decide_eq_true c3
    clear c3
    obtain rfl := Option.some.inj H
    go_wp2
    repeat (go_quiet (fail); try go_wp2)
    go_ret
    exact ⟨by first | rfl | (simp; done) | (simp [*]; done), by repeat (first | exact Drawn0.refl _ | apply Drawn0.step)⟩
   rw [if_neg c3] at H
   have c3b0 : decide ((wrap64 (x5_1 - 1)) < 0) = false := decide_eq_false c3
   clear c3
   by_cases c4 : (wrap64 (x6_1 - 1)) < 0
   ·rw [if_pos c4] at H
    have c4b0 : decide ((wrap64 (x6_1 - 1)) < 0) = true := decide_eq_true c4
    clear c4
    obtain rfl := Option.some.inj H
    go_wp2
    repeat (go_quiet (fail); try go_wp2)
    go_ret
    exact ⟨by first | rfl | (simp; done) | (simp [*]; done), by repeat (first | exact Drawn0.refl _ | apply Drawn0.step)⟩
   rw [if_neg c4] at H
   have c4b0 : decide ((wrap64 (x6_1 - 1)) < 0) = false := decide_eq_false c4
   clear c4
   obtain ⟨ji5, hji5⟩ : ∃ j_ : Int, (wrap64 (x5_1 - 1)) = j_ := ⟨_, rfl⟩
   replace H : (if 0 ≤ (ji5) then (if (ji5) < (l0.length : Int) then (if 0 ≤ (wrap64 (x6_1 - 1)) then (if (wrap64 (x6_1 - 1)) < (l1.length : Int) then (if (rd l0 (ji5)) = (rd l1 (wrap64 (x6_1 - 1))) then (diffmatchpatch_commonSuffixLength.l0 k1 l0 l1 ji5 (wrap64 (x6_1 - 1)) (wrap64 (x7_1 + 1))) else (some x7_1)) else (none)) else (none)) else (none)) else (none)) = some r := by first | (rw [hji5] at H; exact H) | (simp only [hji5] at H ⊢; exact H)
   (try rw [hji5] at c3b0)
   have hji5w : (IntKind.i64.wrap (x5_1 - 1)) = ji5 := (i64_w _).trans hji5
   by_cases c6 : 0 ≤ (ji5)
   case neg =>
    rw [if_neg c6] at H
    exact absurd H (by simp)
   rw [if_pos c6] at H
   have c6b0 : decide (0 ≤ (ji5)) = true := decide_eq_true c6
   clear c6
   by_cases c7 : (ji5) < (l0.length : Int)
   case neg =>
    rw [if_neg c7] at H
    exact absurd H (by simp)
   rw [if_pos c7] at H
   have c7b0 : decide ((ji5) < (l0.length : Int)) = true := decide_eq_true c7
   clear c7
   obtain ⟨ji8, hji8⟩ : ∃ j_ : Int, (wrap64 (x6_1 - 1)) = j_ := ⟨_, rfl⟩
   replace H : (if 0 ≤ (ji8) then (if (ji8) < (l1.length : Int) then (if (rd l0 (ji5)) = (rd l1 (ji8)) then (diffmatchpatch_commonSuffixLength.l0 k1 l0 l1 ji5 ji8 (wrap64 (x7_1 + 1))) else (some x7_1)) else (none)) else (none)) = some r := by first | (rw [hji8] at H; exact H) | (simp only [hji8] at H ⊢; exact H)
   (try rw [hji8] at c4b0)
   have hji8w : (IntKind.i64.wrap (x6_1 - 1)) = ji8 := (i64_w _).trans hji8
   by_cases c9 : 0 ≤ (ji8)
   case neg =>
    rw [if_neg c9] at H
    exact absurd H (by simp)
   rw [if_pos c9] at H
   have c9b0 : decide (0 ≤ (ji8)) = true := decide_eq_true c9
   clear c9
   by_cases c10 : (ji8) < (l1.length : Int)
   case neg =>
    rw [if_neg c10] at H
    exact absurd H (by simp)
   rw [if_pos c10] at H
   have c10b0 : decide ((ji8) < (l1.length : Int)) = true := decide_eq_true c10
   clear c10
   by_cases c11 : (rd l0 (ji5)) = (rd l1 (ji8))
   case neg =>
    rw [if_neg c11] at H
    have c11b0 : ((rd l0 (ji5)) == (rd l1 (ji8))) = false := beq_eq_false_iff_ne.mpr c11
    have c11b1 : ((rd l0 (ji5)) != (rd l1 (ji8))) = true := bne_iff_ne.mpr c11
    obtain rfl := Option.some.inj H
    have p125 : 0 ≤ ((ji5) : Int) := of_decide_eq_true (by first | (with_reducible assumption) | assumption)
    have q125 : (ji5) < (l0.length : Int) := of_decide_eq_true (by first | (with_reducible assumption) | assumption)
    obtain ⟨ad125, e125, hx125_0⟩ := Kd.at_int HR0.out (ji5) p125 q125
    cases e125
    replace p125 := eq_true p125
    replace q125 := eq_true q125
    have p126 : 0 ≤ ((ji8) : Int) := of_decide_eq_true (by first | (with_reducible assumption) | assumption)
    have q126 : (ji8) < (l1.length : Int) := of_decide_eq_true (by first | (with_reducible assumption) | assumption)
    obtain ⟨ad126, e126, hx126_0⟩ := Kd.at_int HR1.out (ji8) p126 q126
    cases e126
    replace p126 := eq_true p126
    replace q126 := eq_true q126
    go_wp2
    repeat (go_quiet (fail); try go_wp2)
    go_ret
    exact ⟨by first | rfl | (simp; done) | (simp only [← hji5, ← hji8] <;> (first | rfl | simp)) | (simp [*]; done), by repeat (first | exact Drawn0.refl _ | apply Drawn0.step)⟩
   rw [if_pos c11] at H
   have c11b0 : ((rd l0 (ji5)) == (rd l1 (ji8))) = true := beq_iff_eq.mpr c11
   have c11b1 : ((rd l0 (ji5)) != (rd l1 (ji8))) = false := bne_eq_false_iff_eq.mpr c11
   clear c11
   have H' := Aside0.mk H
   clear H
   have p125 : 0 ≤ ((ji5) : Int) := of_decide_eq_true (by first | (with_reducible assumption) | assumption)
   have q125 : (ji5) < (l0.length : Int) := of_decide_eq_true (by first | (with_reducible assumption) | assumption)
   obtain ⟨ad125, e125, hx125_0⟩ := Kd.at_int HR0.out (ji5) p125 q125
   cases e125
   replace p125 := eq_true p125
   replace q125 := eq_true q125
   have p126 : 0 ≤ ((ji8) : Int) := of_decide_eq_true (by first | (with_reducible assumption) | assumption)
   have q126 : (ji8) < (l1.length : Int) := of_decide_eq_true (by first | (with_reducible assumption) | assumption)
   obtain ⟨ad126, e126, hx126_0⟩ := Kd.at_int HR1.out (ji8) p126 q126
   cases e126
   replace p126 := eq_true p126
   replace q126 := eq_true q126
   go_wp2
   repeat (go_quiet (fail); try go_wp2)
   go_roundg k1
   case measure => have := HK1.out; omega
   case rel => exact ⟨(ji5), (ji8), (wrap64 (x7_1 + 1)), (by first | rfl | (simp; done) | (simp only [← hji5] <;> (first | rfl | simp)) | (simp [*]; done)), (by first | rfl | (simp; done) | (simp only [← hji8] <;> (first | rfl | simp)) | (simp [*]; done)), (by first | rfl | (simp; done) | (simp [*]; done)), H', ⟨by have := HK1.out; omega⟩, by repeat (first | exact Drawn0.refl _ | apply Drawn0.step)⟩
/-! ### diffmatchpatch_DiffMatchPatch_DiffCommonSuffix: function 46 -/
def diffmatchpatch_DiffMatchPatch_DiffCommonSuffix.f (k : Nat)  (a1 : ByteArray) (a2 : ByteArray) : Option (Int) := if (runesI a1).length ≤ 70368744177664 then (if (runesI a2).length ≤ 70368744177664 then ((diffmatchpatch_commonSuffixLength.f k (runesI a1) (runesI a2)).bind fun t133 => (some t133)) else (none)) else (none)
theorem diffmatchpatch_DiffMatchPatch_DiffCommonSuffix.mono : ∀ a0 a1 k, LeO (diffmatchpatch_DiffMatchPatch_DiffCommonSuffix.f k a0 a1) (diffmatchpatch_DiffMatchPatch_DiffCommonSuffix.f (k + 1) a0 a1) := by
 intro a0 a1 k
 unfold diffmatchpatch_DiffMatchPatch_DiffCommonSuffix.f
 repeat' first
   | (with_reducible exact diffmatchpatch_commonSuffixLength.mono _ _ _)
   | (with_reducible exact LeO.refl _)
   | (with_reducible exact LeO.none _)
   | (with_reducible refine LeO.ite ?_ ?_)
   | (with_reducible refine LeO.bind ?_ (fun _ => ?_))
   | exact diffmatchpatch_commonSuffixLength.mono _ _ _
   | exact LeO.none _
   | refine LeO.ite ?_ ?_
   | refine LeO.bind ?_ (fun _ => ?_)
set_option maxHeartbeats 8000000 in
set_option maxRecDepth 100000 in
theorem diffmatchpatch_DiffMatchPatch_DiffCommonSuffix.calls (k : Nat) (p0_ : Value) (a1 : ByteArray) (a2 : ByteArray) (r : Int) (w : World) (h : diffmatchpatch_DiffMatchPatch_DiffCommonSuffix.f k a1 a2 = some r) :
  Calls Tryd.prog 46 #[p0_, .string a1, .string a2] w fun e w' => e = .returned (.int .i64 r) ∧ Below w.heap.size w w' := by
 have HB := Aside0.mk (Below.refl w.heap.size w)
 have H : (if (runesI a1).length ≤ 70368744177664 then (if (runesI a2).length ≤ 70368744177664 then ((diffmatchpatch_commonSuffixLength.f k (runesI a1) (runesI a2)).bind fun t133 => (some t133)) else (none)) else (none)) = some r := h
 clear h
 by_cases c4 : (runesI a1).length ≤ 70368744177664
 case neg =>
  rw [if_neg c4] at H
  exact absurd H (by simp)
 rw [if_pos c4] at H
 have c4b0 := eq_true c4
 have c4b1 : decide ((runesI a1).length ≤ 70368744177664) = true := decide_eq_true c4
 clear c4
 obtain ⟨y127, hy127⟩ : ∃ y_ : List Int, y_ = (runesI a1) := ⟨_, rfl⟩
 replace H : (if (runesI a2).length ≤ 70368744177664 then ((diffmatchpatch_commonSuffixLength.f k y127 (runesI a2)).bind fun t133 => (some t133)) else (none)) = some r := by first | (rw [hy127]; with_reducible exact H) | (have H2_ := (Option.bind_some _ _).symm.trans H; rw [hy127]; with_reducible exact H2_) | (have H2_ := (Option.bind_some _ _).symm.trans H; with_reducible exact H2_) | with_reducible exact H | (rw [hy127]; exact H) | exact H
 have Ny127 := Aside0.mk hy127
 clear hy127
 by_cases c5 : (runesI a2).length ≤ 70368744177664
 case neg =>
  rw [if_neg c5] at H
  exact absurd H (by simp)
 rw [if_pos c5] at H
 have c5b0 := eq_true c5
 have c5b1 : decide ((runesI a2).length ≤ 70368744177664) = true := decide_eq_true c5
 clear c5
 obtain ⟨y130, hy130⟩ : ∃ y_ : List Int, y_ = (runesI a2) := ⟨_, rfl⟩
 replace H : ((diffmatchpatch_commonSuffixLength.f k y127 y130).bind fun t133 => (some t133)) = some r := by first | (rw [hy130]; with_reducible exact H) | (have H2_ := (Option.bind_some _ _).symm.trans H; rw [hy130]; with_reducible exact H2_) | (have H2_ := (Option.bind_some _ _).symm.trans H; with_reducible exact H2_) | with_reducible exact H | (rw [hy130]; exact H) | exact H
 have Ny130 := Aside0.mk hy130
 clear hy130
 replace H := Option.bind_eq_some_iff.mp H
 obtain ⟨t133, A60, H⟩ := H
 replace H : (some t133) = some r := H
 have A6 := Aside0.mk A60
 clear A60
 obtain rfl := Option.some.inj H
 go_enter Tryd.func46, Tryd.ntmps46
 go_wp2_with (first | ((with_reducible refine gate_dst (N := 8) rfl ?_); refine Kd.R_runes _ 21 rfl (N := 8) rfl 9 50 _ rfl a1 rfl Tryd.underlying9 Tryd.underlying50 Tryd.underlying21 info21 (ok := fun _ => True) (okp := fun _ => True) (fun _ hk => hk) trivial (of_decide_eq_true (by first | (with_reducible assumption) | assumption)) (Below.refl _ _) (Nat.le_refl _) ?_; intro v128 w7 ho8 hb hg_ hnew_; clear hg_ hnew_; (first | rw [← Ny127.out] at ho8 | (simp only [Int.reduceToNat] at ho8; rw [← Ny127.out] at ho8)); have n0_ := Aside0.mk (Kd.R_lower ho8 (below_size (by repeat (first | (with_reducible first | exact HB.out | apply below_alloc | apply pw_below_drewN | apply below_drew1) | exact HB.out)))); have n1_ := Aside0.mk (below_step (by repeat (first | (with_reducible first | exact HB.out | apply below_alloc | apply pw_below_drewN | apply below_drew1) | exact HB.out)) hb); clear HB; have HO129 := n0_; have HB := n1_; clear n0_ n1_; clear hb ho8) | ((with_reducible refine gate_dst (N := 10) rfl ?_); refine Kd.R_runes _ 21 rfl (N := 10) rfl 9 50 _ rfl a2 rfl Tryd.underlying9 Tryd.underlying50 Tryd.underlying21 info21 (ok := fun _ => True) (okp := fun _ => True) (fun _ hk => hk) trivial (of_decide_eq_true (by first | (with_reducible assumption) | assumption)) (Below.refl _ _) (Nat.le_refl _) ?_; intro v131 w9 ho10 hb hg_ hnew_; clear hg_ hnew_; (first | rw [← Ny130.out] at ho10 | (simp only [Int.reduceToNat] at ho10; rw [← Ny130.out] at ho10)); have n0_ := Aside0.mk (Kd.R_elder' (by (with_reducible repeat (first | apply Kd.R_alloc | apply Kd.R_drewN | apply Kd.R_drew)); exact HO129.out) (Kd.R_base ho10) hb); have n1_ := Aside0.mk (Kd.R_lower (Kd.R_new' ho10 (Kd.R_lt (by (with_reducible repeat (first | apply Kd.R_alloc | apply Kd.R_drewN | apply Kd.R_drew)); exact HO129.out))) (below_size (by repeat (first | (with_reducible first | exact HB.out | apply below_alloc | apply pw_below_drewN | apply below_drew1) | exact HB.out)))); have n2_ := Aside0.mk (below_step (by repeat (first | (with_reducible first | exact HB.out | apply below_alloc | apply pw_below_drewN | apply below_drew1) | exact HB.out)) hb); clear HO129; clear HB; have HO129 := n0_; have HO132 := n1_; have HB := n2_; clear n0_ n1_ n2_; clear hb ho10; obtain ⟨Ao11, co11, eo11⟩ := Kd.R_slice HO129.out; subst eo11; obtain ⟨Ao12, co12, eo12⟩ := Kd.R_slice HO132.out; subst eo12) | ((with_reducible refine gate_callee (f := 51) rfl ?_); refine goesL_ (some 11) rfl rfl Tryd.func51 (by kernel_rfl) rfl #[.slice Ao11 y127.length co11, .slice Ao12 y130.length co12] rfl (by (try simp only [List.map_toArray, List.map_cons, List.map_nil]); first | done | rfl | (simp only [List.length_drop, List.length_take]; rfl)) ?_; (with_reducible refine (diffmatchpatch_commonSuffixLength.calls k _ _ y127 _ _ y130 t133 _ ?side1 ?side2 ?side3 ?side4 A6.out).mono ?_); (case side1 => repeat (first | exact (Kd.R_reads' HO129.out).2.2 | (with_reducible refine Kd.C_alloc ?_ _) | (with_reducible refine Kd.C_drewN ?_ _) | (with_reducible refine Kd.C_drew ?_))); (case side2 => exact (Kd.R_reads' HO129.out).2.1); (case side3 => repeat (first | exact (Kd.R_reads' HO132.out).2.2 | (with_reducible refine Kd.C_alloc ?_ _) | (with_reducible refine Kd.C_drewN ?_ _) | (with_reducible refine Kd.C_drew ?_))); (case side4 => exact (Kd.R_reads' HO132.out).2.1); rintro e w' ⟨rfl, ⟨nd, rfl⟩⟩; refine ⟨_, rfl, ?_⟩))
 go_ret
 exact ⟨by first | rfl | (simp [errW_none, errW_some] <;> rfl) | (simp [*, errW_none, errW_some] <;> rfl), by repeat (first | (with_reducible first | exact HB.out | apply below_alloc | apply pw_below_drewN | apply below_drew1) | exact HB.out)⟩
/-! ### diffmatchpatch_zzNotAlnum: function 58 -/
def diffmatchpatch_zzNotAlnum.f (a0 : Int) : Option (Bool) := if 97 ≤ a0 then (if a0 ≤ 122 then (some (!true)) else (if 65 ≤ a0 then (if a0 ≤ 90 then (some (!true)) else (if 48 ≤ a0 then (some (!(decide (a0 ≤ 57)))) else (some (!false)))) else (if 48 ≤ a0 then (some (!(decide (a0 ≤ 57)))) else (some (!false))))) else (if 65 ≤ a0 then (if a0 ≤ 90 then (some (!true)) else (if 48 ≤ a0 then (some (!(decide (a0 ≤ 57)))) else (some (!false)))) else (if 48 ≤ a0 then (some (!(decide (a0 ≤ 57)))) else (some (!false))))
set_option maxHeartbeats 8000000 in
set_option maxRecDepth 100000 in
theorem diffmatchpatch_zzNotAlnum.calls (a0 : Int) (r : Bool) (w : World) (h : diffmatchpatch_zzNotAlnum.f a0 = some r) :
  Calls Tryd.prog 58 #[.int .i32 a0] w fun e w' => e = .returned (.bool r) ∧ Drawn0 w w' := by
 have H : (if 97 ≤ a0 then (if a0 ≤ 122 then (some (!true)) else (if 65 ≤ a0 then (if a0 ≤ 90 then (some (!true)) else (if 48 ≤ a0 then (some (!(decide (a0 ≤ 57)))) else (some (!false)))) else (if 48 ≤ a0 then (some (!(decide (a0 ≤ 57)))) else (some (!false))))) else (if 65 ≤ a0 then (if a0 ≤ 90 then (some (!true)) else (if 48 ≤ a0 then (some (!(decide (a0 ≤ 57)))) else (some (!false)))) else (if 48 ≤ a0 then (some (!(decide (a0 ≤ 57)))) else (some (!false))))) = some r := h
 clear h
 by_cases c2 : 97 ≤ a0
 case neg =>
  rw [if_neg c2] at H
  have c2b0 : decide (97 ≤ a0) = false := decide_eq_false c2
  clear c2
  by_cases c8 : 65 ≤ a0
  case neg =>
   rw [if_neg c8] at H
   have c8b0 : decide (65 ≤ a0) = false := decide_eq_false c8
   clear c8
   by_cases c11 : 48 ≤ a0
   ·rw [if_pos c11] at H
    have c11b0 : decide (48 ≤ a0) = true := decide_eq_true c11
    clear c11
    obtain rfl := Option.some.inj H
    go_enter Tryd.func58, Tryd.ntmps58
    go_wp2
    go_ret
    exact ⟨by first | rfl | (simp; done) | (simp [*]; done), by repeat (first | exact Drawn0.refl _ | apply Drawn0.step)⟩
   rw [if_neg c11] at H
   have c11b0 : decide (48 ≤ a0) = false := decide_eq_false c11
   clear c11
   obtain rfl := Option.some.inj H
   go_enter Tryd.func58, Tryd.ntmps58
   go_wp2
   go_ret
   exact ⟨by first | rfl | (simp; done) | (simp [*]; done), by repeat (first | exact Drawn0.refl _ | apply Drawn0.step)⟩
  rw [if_pos c8] at H
  have c8b0 : decide (65 ≤ a0) = true := decide_eq_true c8
  clear c8
  by_cases c9 : a0 ≤ 90
  ·rw [if_pos c9] at H
   have c9b0 : decide (a0 ≤ 90) = true := decide_eq_true c9
   clear c9
   obtain rfl := Option.some.inj H
   go_enter Tryd.func58, Tryd.ntmps58
   go_wp2
   go_ret
   exact ⟨by first | rfl | (simp; done) | (simp [*]; done), by repeat (first | exact Drawn0.refl _ | apply Drawn0.step)⟩
  rw [if_neg c9] at H
  have c9b0 : decide (a0 ≤ 90) = false := decide_eq_false c9
  clear c9
  by_cases c10 : 48 ≤ a0
  ·rw [if_pos c10] at H
   have c10b0 : decide (48 ≤ a0) = true := decide_eq_true c10
   clear c10
   obtain rfl := Option.some.inj H
   go_enter Tryd.func58, Tryd.ntmps58
   go_wp2
   go_ret
   exact ⟨by first | rfl | (simp; done) | (simp [*]; done), by repeat (first | exact Drawn0.refl _ | apply Drawn0.step)⟩
  rw [if_neg c10] at H
  have c10b0 : decide (48 ≤ a0) = false := decide_eq_false c10
  clear c10
  obtain rfl := Option.some.inj H
  go_enter Tryd.func58, Tryd.ntmps58
  go_wp2
  go_ret
  exact ⟨by first | rfl | (simp; done) | (simp [*]; done), by repeat (first | exact Drawn0.refl _ | apply Drawn0.step)⟩
 rw [if_pos c2] at H
 have c2b0 : decide (97 ≤ a0) = true := decide_eq_true c2
 clear c2
 by_cases c3 : a0 ≤ 122
 ·rw [if_pos c3] at H
  have c3b0 : decide (a0 ≤ 122) = true := decide_eq_true c3
  clear c3
  obtain rfl := Option.some.inj H
  go_enter Tryd.func58, Tryd.ntmps58
  go_wp2
  go_ret
  exact ⟨by first | rfl | (simp; done) | (simp [*]; done), by repeat (first | exact Drawn0.refl _ | apply Drawn0.step)⟩
 rw [if_neg c3] at H
 have c3b0 : decide (a0 ≤ 122) = false := decide_eq_false c3
 clear c3
 by_cases c4 : 65 ≤ a0
 case neg =>
  rw [if_neg c4] at H
  have c4b0 : decide (65 ≤ a0) = false := decide_eq_false c4
  clear c4
  by_cases c7 : 48 ≤ a0
  ·rw [if_pos c7] at H
   have c7b0 : decide (48 ≤ a0) = true := decide_eq_true c7
   clear c7
   obtain rfl := Option.some.inj H
   go_enter Tryd.func58, Tryd.ntmps58
   go_wp2
   go_ret
   exact ⟨by first | rfl | (simp; done) | (simp [*]; done), by repeat (first | exact Drawn0.refl _ | apply Drawn0.step)⟩
  rw [if_neg c7] at H
  have c7b0 : decide (48 ≤ a0) = false := decide_eq_false c7
  clear c7
  obtain rfl := Option.some.inj H
  go_enter Tryd.func58, Tryd.ntmps58
  go_wp2
  go_ret
  exact ⟨by first | rfl | (simp; done) | (simp [*]; done), by repeat (first | exact Drawn0.refl _ | apply Drawn0.step)⟩
 rw [if_pos c4] at H
 have c4b0 : decide (65 ≤ a0) = true := decide_eq_true c4
 clear c4
 by_cases c5 : a0 ≤ 90
 ·rw [if_pos c5] at H
  have c5b0 : decide (a0 ≤ 90) = true := decide_eq_true c5
  clear c5
  obtain rfl := Option.some.inj H
  go_enter Tryd.func58, Tryd.ntmps58
  go_wp2
  go_ret
  exact ⟨by first | rfl | (simp; done) | (simp [*]; done), by repeat (first | exact Drawn0.refl _ | apply Drawn0.step)⟩
 rw [if_neg c5] at H
 have c5b0 : decide (a0 ≤ 90) = false := decide_eq_false c5
 clear c5
 by_cases c6 : 48 ≤ a0
 ·rw [if_pos c6] at H
  have c6b0 : decide (48 ≤ a0) = true := decide_eq_true c6
  clear c6
  obtain rfl := Option.some.inj H
  go_enter Tryd.func58, Tryd.ntmps58
  go_wp2
  go_ret
  exact ⟨by first | rfl | (simp; done) | (simp [*]; done), by repeat (first | exact Drawn0.refl _ | apply Drawn0.step)⟩
 rw [if_neg c6] at H
 have c6b0 : decide (48 ≤ a0) = false := decide_eq_false c6
 clear c6
 obtain rfl := Option.some.inj H
 go_enter Tryd.func58, Tryd.ntmps58
 go_wp2
 go_ret
 exact ⟨by first | rfl | (simp; done) | (simp [*]; done), by repeat (first | exact Drawn0.refl _ | apply Drawn0.step)⟩
/-! ### diffmatchpatch_zzWhite: function 59 -/
def diffmatchpatch_zzWhite.f (a0 : Int) : Option (Bool) := if a0 = 9 then (some true) else (if a0 = 10 then (some true) else (if a0 = 12 then (some true) else (if a0 = 13 then (some true) else (some (a0 == 32)))))
set_option maxHeartbeats 8000000 in
set_option maxRecDepth 100000 in
theorem diffmatchpatch_zzWhite.calls (a0 : Int) (r : Bool) (w : World) (h : diffmatchpatch_zzWhite.f a0 = some r) :
  Calls Tryd.prog 59 #[.int .i32 a0] w fun e w' => e = .returned (.bool r) ∧ Drawn0 w w' := by
 have H : (if a0 = 9 then (some true) else (if a0 = 10 then (some true) else (if a0 = 12 then (some true) else (if a0 = 13 then (some true) else (some (a0 == 32)))))) = some r := h
 clear h
 by_cases c2 : a0 = 9
 ·rw [if_pos c2] at H
  have c2b0 : (a0 == 9) = true := beq_iff_eq.mpr c2
  have c2b1 : (a0 != 9) = false := bne_eq_false_iff_eq.mpr c2
  clear c2
  obtain rfl := Option.some.inj H
  go_enter Tryd.func59, Tryd.ntmps59
  go_wp2
  go_ret
  exact ⟨by first | rfl | (simp; done) | (simp [*]; done), by repeat (first | exact Drawn0.refl _ | apply Drawn0.step)⟩
 rw [if_neg c2] at H
 have c2b0 : (a0 == 9) = false := beq_eq_false_iff_ne.mpr c2
 have c2b1 : (a0 != 9) = true := bne_iff_ne.mpr c2
 by_cases c3 : a0 = 10
 ·rw [if_pos c3] at H
  have c3b0 : (a0 == 10) = true := beq_iff_eq.mpr c3
  have c3b1 : (a0 != 10) = false := bne_eq_false_iff_eq.mpr c3
  clear c3
  obtain rfl := Option.some.inj H
  go_enter Tryd.func59, Tryd.ntmps59
  go_wp2
  go_ret
  exact ⟨by first | rfl | (simp; done) | (simp [*]; done), by repeat (first | exact Drawn0.refl _ | apply Drawn0.step)⟩
 rw [if_neg c3] at H
 have c3b0 : (a0 == 10) = false := beq_eq_false_iff_ne.mpr c3
 have c3b1 : (a0 != 10) = true := bne_iff_ne.mpr c3
 by_cases c4 : a0 = 12
 ·rw [if_pos c4] at H
  have c4b0 : (a0 == 12) = true := beq_iff_eq.mpr c4
  have c4b1 : (a0 != 12) = false := bne_eq_false_iff_eq.mpr c4
  clear c4
  obtain rfl := Option.some.inj H
  go_enter Tryd.func59, Tryd.ntmps59
  go_wp2
  go_ret
  exact ⟨by first | rfl | (simp; done) | (simp [*]; done), by repeat (first | exact Drawn0.refl _ | apply Drawn0.step)⟩
 rw [if_neg c4] at H
 have c4b0 : (a0 == 12) = false := beq_eq_false_iff_ne.mpr c4
 have c4b1 : (a0 != 12) = true := bne_iff_ne.mpr c4
 by_cases c5 : a0 = 13
 case neg =>
  rw [if_neg c5] at H
  have c5b0 : (a0 == 13) = false := beq_eq_false_iff_ne.mpr c5
  have c5b1 : (a0 != 13) = true := bne_iff_ne.mpr c5
  obtain rfl := Option.some.inj H
  go_enter Tryd.func59, Tryd.ntmps59
  go_wp2
  go_ret
  exact ⟨by first | rfl | (simp; done) | (simp [*]; done), by repeat (first | exact Drawn0.refl _ | apply Drawn0.step)⟩
 rw [if_pos c5] at H
 have c5b0 : (a0 == 13) = true := beq_iff_eq.mpr c5
 have c5b1 : (a0 != 13) = false := bne_eq_false_iff_eq.mpr c5
 clear c5
 obtain rfl := Option.some.inj H
 go_enter Tryd.func59, Tryd.ntmps59
 go_wp2
 go_ret
 exact ⟨by first | rfl | (simp; done) | (simp [*]; done), by repeat (first | exact Drawn0.refl _ | apply Drawn0.step)⟩
/-! ### diffmatchpatch_zzBreak: function 60 -/
def diffmatchpatch_zzBreak.f (a0 : Int) : Option (Bool) := if a0 = 13 then (some true) else (some (a0 == 10))
set_option maxHeartbeats 8000000 in
set_option maxRecDepth 100000 in
theorem diffmatchpatch_zzBreak.calls (a0 : Int) (r : Bool) (w : World) (h : diffmatchpatch_zzBreak.f a0 = some r) :
  Calls Tryd.prog 60 #[.int .i32 a0] w fun e w' => e = .returned (.bool r) ∧ Drawn0 w w' := by
 have H : (if a0 = 13 then (some true) else (some (a0 == 10))) = some r := h
 clear h
 by_cases c2 : a0 = 13
 case neg =>
  rw [if_neg c2] at H
  have c2b0 : (a0 == 13) = false := beq_eq_false_iff_ne.mpr c2
  have c2b1 : (a0 != 13) = true := bne_iff_ne.mpr c2
  obtain rfl := Option.some.inj H
  go_enter Tryd.func60, Tryd.ntmps60
  go_wp2
  go_ret
  exact ⟨by first | rfl | (simp; done) | (simp [*]; done), by repeat (first | exact Drawn0.refl _ | apply Drawn0.step)⟩
 rw [if_pos c2] at H
 have c2b0 : (a0 == 13) = true := beq_iff_eq.mpr c2
 have c2b1 : (a0 != 13) = false := bne_eq_false_iff_eq.mpr c2
 clear c2
 obtain rfl := Option.some.inj H
 go_enter Tryd.func60, Tryd.ntmps60
 go_wp2
 go_ret
 exact ⟨by first | rfl | (simp; done) | (simp [*]; done), by repeat (first | exact Drawn0.refl _ | apply Drawn0.step)⟩
/-! ### diffmatchpatch_zzBlankEnd: function 61 -/
def diffmatchpatch_zzBlankEnd.f (a0 : ByteArray) : Option (Bool) := if (a0.size : Int) < 2 then (some false) else (if 0 ≤ (wrap64 ((a0.size : Int) - 1)) then (if (wrap64 ((a0.size : Int) - 1)) < (a0.size : Int) then (if (bt a0 (wrap64 ((a0.size : Int) - 1))) = 10 then (if 0 ≤ (wrap64 ((a0.size : Int) - 2)) then (if (wrap64 ((a0.size : Int) - 2)) < (a0.size : Int) then (if (bt a0 (wrap64 ((a0.size : Int) - 2))) = 10 then (some true) else (if (a0.size : Int) > 2 then (if (bt a0 (wrap64 ((a0.size : Int) - 2))) = 13 then (if 0 ≤ (wrap64 ((a0.size : Int) - 3)) then (if (wrap64 ((a0.size : Int) - 3)) < (a0.size : Int) then (some ((bt a0 (wrap64 ((a0.size : Int) - 3))) == 10)) else (none)) else (none)) else (some false)) else (some false))) else (none)) else (none)) else (some false)) else (none)) else (none))
set_option maxHeartbeats 8000000 in
set_option maxRecDepth 100000 in
theorem diffmatchpatch_zzBlankEnd.calls (a0 : ByteArray) (r : Bool) (w : World) (h : diffmatchpatch_zzBlankEnd.f a0 = some r) :
  Calls Tryd.prog 61 #[.string a0] w fun e w' => e = .returned (.bool r) ∧ Drawn0 w w' := by
 have H : (if (a0.size : Int) < 2 then (some false) else (if 0 ≤ (wrap64 ((a0.size : Int) - 1)) then (if (wrap64 ((a0.size : Int) - 1)) < (a0.size : Int) then (if (bt a0 (wrap64 ((a0.size : Int) - 1))) = 10 then (if 0 ≤ (wrap64 ((a0.size : Int) - 2)) then (if (wrap64 ((a0.size : Int) - 2)) < (a0.size : Int) then (if (bt a0 (wrap64 ((a0.size : Int) - 2))) = 10 then (some true) else (if (a0.size : Int) > 2 then (if (bt a0 (wrap64 ((a0.size : Int) - 2))) = 13 then (if 0 ≤ (wrap64 ((a0.size : Int) - 3)) then (if (wrap64 ((a0.size : Int) - 3)) < (a0.size : Int) then (some ((bt a0 (wrap64 ((a0.size : Int) - 3))) == 10)) else (none)) else (none)) else (some false)) else (some false))) else (none)) else (none)) else (some false)) else (none)) else (none))) = some r := h
 clear h
 by_cases c2 : (a0.size : Int) < 2
 ·rw [if_pos c2] at H
  have c2b0 : decide ((a0.size : Int) < 2) = true := decide_eq_true c2
  have c2b1 : decide (a0.size < 2) = true := decide_eq_true (by omega)
  clear c2
  obtain rfl := Option.some.inj H
  go_enter Tryd.func61, Tryd.ntmps61
  go_wp2
  go_ret
  exact ⟨by first | rfl | (simp; done) | (simp [*]; done), by repeat (first | exact Drawn0.refl _ | apply Drawn0.step)⟩
 rw [if_neg c2] at H
 have c2b0 : decide ((a0.size : Int) < 2) = false := decide_eq_false c2
 have c2b1 : decide (a0.size < 2) = false := decide_eq_false (by omega)
 clear c2
 obtain ⟨ji3, hji3⟩ : ∃ j_ : Int, (wrap64 ((a0.size : Int) - 1)) = j_ := ⟨_, rfl⟩
 replace H : (if 0 ≤ (ji3) then (if (ji3) < (a0.size : Int) then (if (bt a0 (ji3)) = 10 then (if 0 ≤ (wrap64 ((a0.size : Int) - 2)) then (if (wrap64 ((a0.size : Int) - 2)) < (a0.size : Int) then (if (bt a0 (wrap64 ((a0.size : Int) - 2))) = 10 then (some true) else (if (a0.size : Int) > 2 then (if (bt a0 (wrap64 ((a0.size : Int) - 2))) = 13 then (if 0 ≤ (wrap64 ((a0.size : Int) - 3)) then (if (wrap64 ((a0.size : Int) - 3)) < (a0.size : Int) then (some ((bt a0 (wrap64 ((a0.size : Int) - 3))) == 10)) else (none)) else (none)) else (some false)) else (some false))) else (none)) else (none)) else (some false)) else (none)) else (none)) = some r := by first | (rw [hji3] at H; exact H) | (simp only [hji3] at H ⊢; exact H)
 have hji3w : (IntKind.i64.wrap ((a0.size : Int) - 1)) = ji3 := (i64_w _).trans hji3
 by_cases c4 : 0 ≤ (ji3)
 case neg =>
  rw [if_neg c4] at H
  exact absurd H (by simp)
 rw [if_pos c4] at H
 have c4b0 : decide (0 ≤ (ji3)) = true := decide_eq_true c4
 clear c4
 by_cases c5 : (ji3) < (a0.size : Int)
 case neg =>
  rw [if_neg c5] at H
  exact absurd H (by simp)
 rw [if_pos c5] at H
 have c5b0 : decide ((ji3) < (a0.size : Int)) = true := decide_eq_true c5
 clear c5
 by_cases c7 : (bt a0 (ji3)) = 10
 case neg =>
  rw [if_neg c7] at H
  have c7b0 : ((bt a0 (ji3)) == 10) = false := beq_eq_false_iff_ne.mpr c7
  have c7b1 : ((bt a0 (ji3)) != 10) = true := bne_iff_ne.mpr c7
  obtain rfl := Option.some.inj H
  have p6 : 0 ≤ ((ji3) : Int) := of_decide_eq_true (by first | (with_reducible assumption) | assumption)
  have q6 : (ji3) < (a0.size : Int) := of_decide_eq_true (by first | (with_reducible assumption) | assumption)
  have hx6 := bt_at a0 (ji3)
  replace p6 := eq_true p6
  replace q6 := eq_true q6
  go_enter Tryd.func61, Tryd.ntmps61
  go_wp2
  go_ret
  exact ⟨by first | rfl | (simp; done) | (simp only [← hji3] <;> (first | rfl | simp)) | (simp [*]; done), by repeat (first | exact Drawn0.refl _ | apply Drawn0.step)⟩
 rw [if_pos c7] at H
 have c7b0 : ((bt a0 (ji3)) == 10) = true := beq_iff_eq.mpr c7
 have c7b1 : ((bt a0 (ji3)) != 10) = false := bne_eq_false_iff_eq.mpr c7
 clear c7
 obtain ⟨ji8, hji8⟩ : ∃ j_ : Int, (wrap64 ((a0.size : Int) - 2)) = j_ := ⟨_, rfl⟩
 replace H : (if 0 ≤ (ji8) then (if (ji8) < (a0.size : Int) then (if (bt a0 (ji8)) = 10 then (some true) else (if (a0.size : Int) > 2 then (if (bt a0 (ji8)) = 13 then (if 0 ≤ (wrap64 ((a0.size : Int) - 3)) then (if (wrap64 ((a0.size : Int) - 3)) < (a0.size : Int) then (some ((bt a0 (wrap64 ((a0.size : Int) - 3))) == 10)) else (none)) else (none)) else (some false)) else (some false))) else (none)) else (none)) = some r := by first | (rw [hji8] at H; exact H) | (simp only [hji8] at H ⊢; exact H)
 have hji8w : (IntKind.i64.wrap ((a0.size : Int) - 2)) = ji8 := (i64_w _).trans hji8
 by_cases c9 : 0 ≤ (ji8)
 case neg =>
  rw [if_neg c9] at H
  exact absurd H (by simp)
 rw [if_pos c9] at H
 have c9b0 : decide (0 ≤ (ji8)) = true := decide_eq_true c9
 clear c9
 by_cases c10 : (ji8) < (a0.size : Int)
 case neg =>
  rw [if_neg c10] at H
  exact absurd H (by simp)
 rw [if_pos c10] at H
 have c10b0 : decide ((ji8) < (a0.size : Int)) = true := decide_eq_true c10
 clear c10
 by_cases c12 : (bt a0 (ji8)) = 10
 ·rw [if_pos c12] at H
  have c12b0 : ((bt a0 (ji8)) == 10) = true := beq_iff_eq.mpr c12
  have c12b1 : ((bt a0 (ji8)) != 10) = false := bne_eq_false_iff_eq.mpr c12
  clear c12
  obtain rfl := Option.some.inj H
  have p6 : 0 ≤ ((ji3) : Int) := of_decide_eq_true (by first | (with_reducible assumption) | assumption)
  have q6 : (ji3) < (a0.size : Int) := of_decide_eq_true (by first | (with_reducible assumption) | assumption)
  have hx6 := bt_at a0 (ji3)
  replace p6 := eq_true p6
  replace q6 := eq_true q6
  have p11 : 0 ≤ ((ji8) : Int) := of_decide_eq_true (by first | (with_reducible assumption) | assumption)
  have q11 : (ji8) < (a0.size : Int) := of_decide_eq_true (by first | (with_reducible assumption) | assumption)
  have hx11 := bt_at a0 (ji8)
  replace p11 := eq_true p11
  replace q11 := eq_true q11
  go_enter Tryd.func61, Tryd.ntmps61
  go_wp2
  go_ret
  exact ⟨by first | rfl | (simp; done) | (simp only [← hji3, ← hji8] <;> (first | rfl | simp)) | (simp [*]; done), by repeat (first | exact Drawn0.refl _ | apply Drawn0.step)⟩
 rw [if_neg c12] at H
 have c12b0 : ((bt a0 (ji8)) == 10) = false := beq_eq_false_iff_ne.mpr c12
 have c12b1 : ((bt a0 (ji8)) != 10) = true := bne_iff_ne.mpr c12
 by_cases c13 : (a0.size : Int) > 2
 case neg =>
  rw [if_neg c13] at H
  have c13b0 : decide (2 < (a0.size : Int)) = false := decide_eq_false c13
  have c13b1 : decide (2 < a0.size) = false := decide_eq_false (by omega)
  clear c13
  obtain rfl := Option.some.inj H
  have p6 : 0 ≤ ((ji3) : Int) := of_decide_eq_true (by first | (with_reducible assumption) | assumption)
  have q6 : (ji3) < (a0.size : Int) := of_decide_eq_true (by first | (with_reducible assumption) | assumption)
  have hx6 := bt_at a0 (ji3)
  replace p6 := eq_true p6
  replace q6 := eq_true q6
  have p11 : 0 ≤ ((ji8) : Int) := of_decide_eq_true (by first | (with_reducible assumption) | assumption)
  have q11 : (ji8) < (a0.size : Int) := of_decide_eq_true (by first | (with_reducible assumption) | assumption)
  have hx11 := bt_at a0 (ji8)
  replace p11 := eq_true p11
  replace q11 := eq_true q11
  go_enter Tryd.func61, Tryd.ntmps61
  go_wp2
  go_ret
  exact ⟨by first | rfl | (simp; done) | (simp only [← hji3, ← hji8] <;> (first | rfl | simp)) | (simp [*]; done), by repeat (first | exact Drawn0.refl _ | apply Drawn0.step)⟩
 rw [if_pos c13] at H
 have c13b0 : decide (2 < (a0.size : Int)) = true := decide_eq_true c13
 have c13b1 : decide (2 < a0.size) = true := decide_eq_true (by omega)
 clear c13
 by_cases c15 : (bt a0 (ji8)) = 13
 case neg =>
  rw [if_neg c15] at H
  have c15b0 : ((bt a0 (ji8)) == 13) = false := beq_eq_false_iff_ne.mpr c15
  have c15b1 : ((bt a0 (ji8)) != 13) = true := bne_iff_ne.mpr c15
  obtain rfl := Option.some.inj H
  have p6 : 0 ≤ ((ji3) : Int) := of_decide_eq_true (by first | (with_reducible assumption) | assumption)
  have q6 : (ji3) < (a0.size : Int) := of_decide_eq_true (by first | (with_reducible assumption) | assumption)
  have hx6 := bt_at a0 (ji3)
  replace p6 := eq_true p6
  replace q6 := eq_true q6
  have p11 : 0 ≤ ((ji8) : Int) := of_decide_eq_true (by first | (with_reducible assumption) | assumption)
  have q11 : (ji8) < (a0.size : Int) := of_decide_eq_true (by first | (with_reducible assumption) | assumption)
  have hx11 := bt_at a0 (ji8)
  replace p11 := eq_true p11
  replace q11 := eq_true q11
  have p14 : 0 ≤ ((ji8) : Int) := of_decide_eq_true (by first | (with_reducible assumption) | assumption)
  have q14 : (ji8) < (a0.size : Int) := of_decide_eq_true (by first | (with_reducible assumption) | assumption)
  have hx14 := bt_at a0 (ji8)
  replace p14 := eq_true p14
  replace q14 := eq_true q14
  go_enter Tryd.func61, Tryd.ntmps61
  go_wp2
  go_ret
  exact ⟨by first | rfl | (simp; done) | (simp only [← hji3, ← hji8] <;> (first | rfl | simp)) | (simp [*]; done), by repeat (first | exact Drawn0.refl _ | apply Drawn0.step)⟩
 rw [if_pos c15] at H
 have c15b0 : ((bt a0 (ji8)) == 13) = true := beq_iff_eq.mpr c15
 have c15b1 : ((bt a0 (ji8)) != 13) = false := bne_eq_false_iff_eq.mpr c15
 clear c15
 obtain ⟨ji16, hji16⟩ : ∃ j_ : Int, (wrap64 ((a0.size : Int) - 3)) = j_ := ⟨_, rfl⟩
 replace H : (if 0 ≤ (ji16) then (if (ji16) < (a0.size : Int) then (some ((bt a0 (ji16)) == 10)) else (none)) else (none)) = some r := by first | (rw [hji16] at H; exact H) | (simp only [hji16] at H ⊢; exact H)
 have hji16w : (IntKind.i64.wrap ((a0.size : Int) - 3)) = ji16 := (i64_w _).trans hji16
 by_cases c17 : 0 ≤ (ji16)
 case neg =>
  rw [if_neg c17] at H
  exact absurd H (by simp)
 rw [if_pos c17] at H
 have c17b0 : decide (0 ≤ (ji16)) = true := decide_eq_true c17
 clear c17
 by_cases c18 : (ji16) < (a0.size : Int)
 case neg =>
  rw [if_neg c18] at H
  exact absurd H (by simp)
 rw [if_pos c18] at H
 have c18b0 : decide ((ji16) < (a0.size : Int)) = true := decide_eq_true c18
 clear c18
 obtain rfl := Option.some.inj H
 have p6 : 0 ≤ ((ji3) : Int) := of_decide_eq_true (by first | (with_reducible assumption) | assumption)
 have q6 : (ji3) < (a0.size : Int) := of_decide_eq_true (by first | (with_reducible assumption) | assumption)
 have hx6 := bt_at a0 (ji3)
 replace p6 := eq_true p6
 replace q6 := eq_true q6
 have p11 : 0 ≤ ((ji8) : Int) := of_decide_eq_true (by first | (with_reducible assumption) | assumption)
 have q11 : (ji8) < (a0.size : Int) := of_decide_eq_true (by first | (with_reducible assumption) | assumption)
 have hx11 := bt_at a0 (ji8)
 replace p11 := eq_true p11
 replace q11 := eq_true q11
 have p14 : 0 ≤ ((ji8) : Int) := of_decide_eq_true (by first | (with_reducible assumption) | assumption)
 have q14 : (ji8) < (a0.size : Int) := of_decide_eq_true (by first | (with_reducible assumption) | assumption)
 have hx14 := bt_at a0 (ji8)
 replace p14 := eq_true p14
 replace q14 := eq_true q14
 have p19 : 0 ≤ ((ji16) : Int) := of_decide_eq_true (by first | (with_reducible assumption) | assumption)
 have q19 : (ji16) < (a0.size : Int) := of_decide_eq_true (by first | (with_reducible assumption) | assumption)
 have hx19 := bt_at a0 (ji16)
 replace p19 := eq_true p19
 replace q19 := eq_true q19
 go_enter Tryd.func61, Tryd.ntmps61
 go_wp2
 go_ret
 exact ⟨by first | rfl | (simp; done) | (simp only [← hji3, ← hji8, ← hji16] <;> (first | rfl | simp)) | (simp [*]; done), by repeat (first | exact Drawn0.refl _ | apply Drawn0.step)⟩
end Go.Proofs.YtaabfadjemmibaaDoor.P