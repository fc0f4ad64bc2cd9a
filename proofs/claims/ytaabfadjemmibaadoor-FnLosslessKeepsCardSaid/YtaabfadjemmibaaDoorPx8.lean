-- Written by a program of this session (wip/tools): the printer's text for functions of the seat YtaabfadjemmibaaDoor. Not trusted: Lean checks it.
import Derived.Test.YtaabfadjemmibaaDoorPx0
import Derived.Test.YtaabfadjemmibaaDoorPx3
import Derived.Test.YtaabfadjemmibaaDoorPx4
import Derived.Test.YtaabfadjemmibaaDoorPx7
namespace Go.Proofs.YtaabfadjemmibaaDoor.P
open Go.RowKit Go.Proofs.YtaabfadjemmibaaDoorW.PrintWords Go.Proofs.YtaabfadjemmibaaDoorW.PrintLast Go.Proofs.YtaabfadjemmibaaDoorW.PrintMore
attribute [local go_sem] max2_int min2_int max_two min_two max_three min_three max_four min_four   -- for this text's walks alone
open Go.Proofs.YtaabfadjemmibaaDoorX
set_option linter.unusedVariables false
set_option linter.unusedSimpArgs false
/-! ### laws_FnLosslessFew: function 3 -/
mutual
def laws_FnLosslessFew.l0 : Nat → List (S26) → Int → Option (Bool)
 | 0, _, _ => none
 | k + 1, x0, x3 => if (wrap64 (x3 + 1)) < (x0.length : Int) then (if 0 ≤ (wrap64 (x3 - 1)) then (if (wrap64 (x3 - 1)) < (x0.length : Int) then (if ((rd_T26 x0 (wrap64 (x3 - 1))).f0) = 0 then (if 0 ≤ x3 then (if x3 < (x0.length : Int) then (if ((rd_T26 x0 x3).f0) = 0 then (laws_FnLosslessFew.l0 k x0 (wrap64 (x3 + 1))) else (if 0 ≤ (wrap64 (x3 + 1)) then (if ((rd_T26 x0 (wrap64 (x3 + 1))).f0) = 0 then ((laws_cleanAwake.f k).bind fun t224 => (some t224)) else (laws_FnLosslessFew.l0 k x0 (wrap64 (x3 + 1)))) else (none))) else (none)) else (none)) else (laws_FnLosslessFew.l0 k x0 (wrap64 (x3 + 1)))) else (none)) else (none)) else (laws_FnLosslessFew.l1 k x0 1)
def laws_FnLosslessFew.l1 : Nat → List (S26) → Int → Option (Bool)
 | 0, _, _ => none
 | k + 1, x0, x4 => if x4 < (x0.length : Int) then (if 0 ≤ (wrap64 (x4 - 1)) then (if (wrap64 (x4 - 1)) < (x0.length : Int) then (if 0 ≤ x4 then (if ((rd_T26 x0 (wrap64 (x4 - 1))).f0) = ((rd_T26 x0 x4).f0) then ((laws_cleanAwake.f k).bind fun t227 => (some t227)) else (laws_FnLosslessFew.l1 k x0 (wrap64 (x4 + 1)))) else (none)) else (none)) else (none)) else ((laws_cleanAwake.f k).bind fun t228 => (if t228 = true then ((laws_cleanOf.f k x0).bind fun t229 => ((laws_cleanOwn.f x0).bind fun t232 => ((impl_CleanLossless.f k t232).bind fun t235 => ((laws_cleanOf.f k t235).bind fun t238 => ((spec_CleanSame.f k t229 t238).bind fun t241 => (some t241)))))) else (some false)))
end
def laws_FnLosslessFew.f (k : Nat) (l0 : List (S26)) : Option (Bool) := (laws_zzFits3.f k l0).bind fun t218 => (if t218 = true then ((laws_cleanASCII.f k l0).bind fun t219 => (if t219 = true then (laws_FnLosslessFew.l0 k l0 1) else ((laws_cleanAwake.f k).bind fun t220 => (some t220)))) else (some true))
theorem laws_FnLosslessFew.mono_l : ∀ k, (∀ y0 y1, LeO (laws_FnLosslessFew.l0 k y0 y1) (laws_FnLosslessFew.l0 (k + 1) y0 y1)) ∧ (∀ y0 y1, LeO (laws_FnLosslessFew.l1 k y0 y1) (laws_FnLosslessFew.l1 (k + 1) y0 y1))
 | 0 => ⟨fun _ _ r h => by simp [laws_FnLosslessFew.l0] at h, fun _ _ r h => by simp [laws_FnLosslessFew.l1] at h⟩
 | k + 1 => by
  obtain ⟨ih0, ih1⟩ := laws_FnLosslessFew.mono_l k
  refine ⟨?_, ?_⟩
  ·intro y0 y1
   unfold laws_FnLosslessFew.l0
   repeat' first
   | (with_reducible exact ih0 _ _)
   | (with_reducible exact ih1 _ _)
   | (with_reducible exact impl_CleanLossless.mono _ _)
   | (with_reducible exact laws_cleanASCII.mono _ _)
   | (with_reducible exact laws_cleanAwake.mono _)
   | (with_reducible exact laws_cleanOf.mono _ _)
   | (with_reducible exact laws_zzFits3.mono _ _)
   | (with_reducible exact spec_CleanSame.mono _ _ _)
   | (with_reducible exact LeO.refl _)
   | (with_reducible exact LeO.none _)
   | (with_reducible refine LeO.ite ?_ ?_)
   | (with_reducible refine LeO.bind ?_ (fun _ => ?_))
   | exact ih0 _ _
   | exact ih1 _ _
   | exact impl_CleanLossless.mono _ _
   | exact laws_cleanASCII.mono _ _
   | exact laws_cleanAwake.mono _
   | exact laws_cleanOf.mono _ _
   | exact laws_zzFits3.mono _ _
   | exact spec_CleanSame.mono _ _ _
   | exact LeO.none _
   | refine LeO.ite ?_ ?_
   | refine LeO.bind ?_ (fun _ => ?_)
  ·intro y0 y1
   unfold laws_FnLosslessFew.l1
   repeat' first
   | (with_reducible exact ih0 _ _)
   | (with_reducible exact ih1 _ _)
   | (with_reducible exact impl_CleanLossless.mono _ _)
   | (with_reducible exact laws_cleanASCII.mono _ _)
   | (with_reducible exact laws_cleanAwake.mono _)
   | (with_reducible exact laws_cleanOf.mono _ _)
   | (with_reducible exact laws_zzFits3.mono _ _)
   | (with_reducible exact spec_CleanSame.mono _ _ _)
   | (with_reducible exact LeO.refl _)
   | (with_reducible exact LeO.none _)
   | (with_reducible refine LeO.ite ?_ ?_)
   | (with_reducible refine LeO.bind ?_ (fun _ => ?_))
   | exact ih0 _ _
   | exact ih1 _ _
   | exact impl_CleanLossless.mono _ _
   | exact laws_cleanASCII.mono _ _
   | exact laws_cleanAwake.mono _
   | exact laws_cleanOf.mono _ _
   | exact laws_zzFits3.mono _ _
   | exact spec_CleanSame.mono _ _ _
   | exact LeO.none _
   | refine LeO.ite ?_ ?_
   | refine LeO.bind ?_ (fun _ => ?_)
theorem laws_FnLosslessFew.mono : ∀ a0 k, LeO (laws_FnLosslessFew.f k a0) (laws_FnLosslessFew.f (k + 1) a0) := by
 intro a0 k
 obtain ⟨ih0, ih1⟩ := laws_FnLosslessFew.mono_l k
 unfold laws_FnLosslessFew.f
 repeat' first
   | (with_reducible exact ih0 _ _)
   | (with_reducible exact ih1 _ _)
   | (with_reducible exact impl_CleanLossless.mono _ _)
   | (with_reducible exact laws_cleanASCII.mono _ _)
   | (with_reducible exact laws_cleanAwake.mono _)
   | (with_reducible exact laws_cleanOf.mono _ _)
   | (with_reducible exact laws_zzFits3.mono _ _)
   | (with_reducible exact spec_CleanSame.mono _ _ _)
   | (with_reducible exact LeO.refl _)
   | (with_reducible exact LeO.none _)
   | (with_reducible refine LeO.ite ?_ ?_)
   | (with_reducible refine LeO.bind ?_ (fun _ => ?_))
   | exact ih0 _ _
   | exact ih1 _ _
   | exact impl_CleanLossless.mono _ _
   | exact laws_cleanASCII.mono _ _
   | exact laws_cleanAwake.mono _
   | exact laws_cleanOf.mono _ _
   | exact laws_zzFits3.mono _ _
   | exact spec_CleanSame.mono _ _ _
   | exact LeO.none _
   | refine LeO.ite ?_ ?_
   | refine LeO.bind ?_ (fun _ => ?_)
set_option maxHeartbeats 8000000 in
set_option maxRecDepth 100000 in
theorem laws_FnLosslessFew.calls (k : Nat) (A0 : Option Addr) (c0 : Nat) (l0 : List (S26)) (r : Bool) (w : World) (hG_ : Glob w) (hr0 : Kd.C k26 w A0 l0.length l0) (hc0 : l0.length ≤ c0) (h : laws_FnLosslessFew.f k l0 = some r) :
  Calls Tryd.prog 3 #[.slice A0 l0.length c0] w fun e w' => e = .returned (.bool r) ∧ Below w.heap.size w w' := by
 have HR0 := Aside0.mk hr0
 have HC0 := Aside0.mk hc0
 clear hr0 hc0
 have HB := Aside0.mk (Below.refl w.heap.size w)
 have H : ((laws_zzFits3.f k l0).bind fun t218 => (if t218 = true then ((laws_cleanASCII.f k l0).bind fun t219 => (if t219 = true then (laws_FnLosslessFew.l0 k l0 1) else ((laws_cleanAwake.f k).bind fun t220 => (some t220)))) else (some true))) = some r := h
 clear h
 replace H := Option.bind_eq_some_iff.mp H
 obtain ⟨t218, A20, H⟩ := H
 replace H : (if t218 = true then ((laws_cleanASCII.f k l0).bind fun t219 => (if t219 = true then (laws_FnLosslessFew.l0 k l0 1) else ((laws_cleanAwake.f k).bind fun t220 => (some t220)))) else (some true)) = some r := H
 have A2 := Aside0.mk A20
 clear A20
 by_cases c3 : t218 = true
 case neg =>
  replace c3 := Bool.eq_false_iff.mpr c3
  subst c3
  have H1 : (some true) = some r := by rw [if_neg (show ¬ (false = true) by decide)] at H; exact H
  clear H
  have H := H1
  clear H1
  obtain rfl := Option.some.inj H
  go_enter Tryd.func3, Tryd.ntmps3
  go_wp2_with (first | (go_at_call 16; (with_reducible refine (laws_zzFits3.calls k _ _ l0 false _ ?side1 ?side2 A2.out).mono ?_); (case side1 => repeat (first | exact HR0.out | (with_reducible refine Kd.C_alloc ?_ _) | (with_reducible refine Kd.C_drewN ?_ _) | (with_reducible refine Kd.C_drew ?_))); (case side2 => exact HC0.out); rintro e w50 ⟨rfl, hb⟩; have n0_ := Aside0.mk (below_step (by repeat (first | (with_reducible first | exact HB.out | apply below_alloc | apply pw_below_drewN | apply below_drew1) | exact HB.out)) hb); clear HB; have HB := n0_; clear n0_; (try clear hb); (try clear hb2); (try clear hk); (try clear hi)))
  repeat (go_quiet (first | (go_at_call 16; (with_reducible refine (laws_zzFits3.calls k _ _ l0 false _ ?side1 ?side2 A2.out).mono ?_); (case side1 => repeat (first | exact HR0.out | (with_reducible refine Kd.C_alloc ?_ _) | (with_reducible refine Kd.C_drewN ?_ _) | (with_reducible refine Kd.C_drew ?_))); (case side2 => exact HC0.out); rintro e w50 ⟨rfl, hb⟩; have n0_ := Aside0.mk (below_step (by repeat (first | (with_reducible first | exact HB.out | apply below_alloc | apply pw_below_drewN | apply below_drew1) | exact HB.out)) hb); clear HB; have HB := n0_; clear n0_; (try clear hb); (try clear hb2); (try clear hk); (try clear hi))); try go_wp2_with (first | (go_at_call 16; (with_reducible refine (laws_zzFits3.calls k _ _ l0 false _ ?side1 ?side2 A2.out).mono ?_); (case side1 => repeat (first | exact HR0.out | (with_reducible refine Kd.C_alloc ?_ _) | (with_reducible refine Kd.C_drewN ?_ _) | (with_reducible refine Kd.C_drew ?_))); (case side2 => exact HC0.out); rintro e w50 ⟨rfl, hb⟩; have n0_ := Aside0.mk (below_step (by repeat (first | (with_reducible first | exact HB.out | apply below_alloc | apply pw_below_drewN | apply below_drew1) | exact HB.out)) hb); clear HB; have HB := n0_; clear n0_; (try clear hb); (try clear hb2); (try clear hk); (try clear hi))))
  go_ret
  exact ⟨by first | rfl | (simp [errW_none, errW_some] <;> rfl) | (simp [*, errW_none, errW_some] <;> rfl), by repeat (first | (with_reducible first | exact HB.out | apply below_alloc | apply pw_below_drewN | apply below_drew1) | exact HB.out)⟩
 subst c3
 have H1 : ((laws_cleanASCII.f k l0).bind fun t219 => (if t219 = true then (laws_FnLosslessFew.l0 k l0 1) else ((laws_cleanAwake.f k).bind fun t220 => (some t220)))) = some r := by rw [if_pos rfl] at H; exact H
 clear H
 have H := H1
 clear H1
 replace H := Option.bind_eq_some_iff.mp H
 obtain ⟨t219, A40, H⟩ := H
 replace H : (if t219 = true then (laws_FnLosslessFew.l0 k l0 1) else ((laws_cleanAwake.f k).bind fun t220 => (some t220))) = some r := H
 have A4 := Aside0.mk A40
 clear A40
 by_cases c5 : t219 = true
 case neg =>
  replace c5 := Bool.eq_false_iff.mpr c5
  subst c5
  have H1 : ((laws_cleanAwake.f k).bind fun t220 => (some t220)) = some r := by rw [if_neg (show ¬ (false = true) by decide)] at H; exact H
  clear H
  have H := H1
  clear H1
  replace H := Option.bind_eq_some_iff.mp H
  obtain ⟨t220, A460, H⟩ := H
  replace H : (some t220) = some r := H
  have A46 := Aside0.mk A460
  clear A460
  obtain rfl := Option.some.inj H
  go_enter Tryd.func3, Tryd.ntmps3
  go_wp2_with (first | (go_at_call 16; (with_reducible refine (laws_zzFits3.calls k _ _ l0 true _ ?side1 ?side2 A2.out).mono ?_); (case side1 => repeat (first | exact HR0.out | (with_reducible refine Kd.C_alloc ?_ _) | (with_reducible refine Kd.C_drewN ?_ _) | (with_reducible refine Kd.C_drew ?_))); (case side2 => exact HC0.out); rintro e w47 ⟨rfl, hb⟩; have n0_ := Aside0.mk (below_step (by repeat (first | (with_reducible first | exact HB.out | apply below_alloc | apply pw_below_drewN | apply below_drew1) | exact HB.out)) hb); clear HB; have HB := n0_; clear n0_; (try clear hb); (try clear hb2); (try clear hk); (try clear hi)) | (go_at_call 17; (with_reducible refine (laws_cleanASCII.calls k _ _ l0 false _ ?side1 ?side2 A4.out).mono ?_); (case side1 => repeat (first | exact (Kd.C_below HR0.out HB.out) | (with_reducible refine Kd.C_alloc ?_ _) | (with_reducible refine Kd.C_drewN ?_ _) | (with_reducible refine Kd.C_drew ?_))); (case side2 => exact HC0.out); rintro e w48 ⟨rfl, hb⟩; have n0_ := Aside0.mk (below_step (by repeat (first | (with_reducible first | exact HB.out | apply below_alloc | apply pw_below_drewN | apply below_drew1) | exact HB.out)) hb); clear HB; have HB := n0_; clear n0_; (try clear hb); (try clear hb2); (try clear hk); (try clear hi)) | (go_at_call 18; (with_reducible refine (laws_cleanAwake.calls k  t220 _ ?side1 A46.out).mono ?_); (case side1 => exact Glob.below hG_ (by repeat (first | (with_reducible first | exact HB.out | apply below_alloc | apply pw_below_drewN | apply below_drew1) | exact HB.out))); rintro e w49 ⟨rfl, hb⟩; have n0_ := Aside0.mk (below_step (by repeat (first | (with_reducible first | exact HB.out | apply below_alloc | apply pw_below_drewN | apply below_drew1) | exact HB.out)) hb); clear HB; have HB := n0_; clear n0_; (try clear hb); (try clear hb2); (try clear hk); (try clear hi)))
  repeat (go_quiet (first | (go_at_call 16; (with_reducible refine (laws_zzFits3.calls k _ _ l0 true _ ?side1 ?side2 A2.out).mono ?_); (case side1 => repeat (first | exact HR0.out | (with_reducible refine Kd.C_alloc ?_ _) | (with_reducible refine Kd.C_drewN ?_ _) | (with_reducible refine Kd.C_drew ?_))); (case side2 => exact HC0.out); rintro e w47 ⟨rfl, hb⟩; have n0_ := Aside0.mk (below_step (by repeat (first | (with_reducible first | exact HB.out | apply below_alloc | apply pw_below_drewN | apply below_drew1) | exact HB.out)) hb); clear HB; have HB := n0_; clear n0_; (try clear hb); (try clear hb2); (try clear hk); (try clear hi)) | (go_at_call 17; (with_reducible refine (laws_cleanASCII.calls k _ _ l0 false _ ?side1 ?side2 A4.out).mono ?_); (case side1 => repeat (first | exact (Kd.C_below HR0.out HB.out) | (with_reducible refine Kd.C_alloc ?_ _) | (with_reducible refine Kd.C_drewN ?_ _) | (with_reducible refine Kd.C_drew ?_))); (case side2 => exact HC0.out); rintro e w48 ⟨rfl, hb⟩; have n0_ := Aside0.mk (below_step (by repeat (first | (with_reducible first | exact HB.out | apply below_alloc | apply pw_below_drewN | apply below_drew1) | exact HB.out)) hb); clear HB; have HB := n0_; clear n0_; (try clear hb); (try clear hb2); (try clear hk); (try clear hi)) | (go_at_call 18; (with_reducible refine (laws_cleanAwake.calls k  t220 _ ?side1 A46.out).mono ?_); (case side1 => exact Glob.below hG_ (by repeat (first | (with_reducible first | exact HB.out | apply below_alloc | apply pw_below_drewN | apply below_drew1) | exact HB.out))); rintro e w49 ⟨rfl, hb⟩; have n0_ := Aside0.mk (below_step (by repeat (first | (with_reducible first | exact HB.out | apply below_alloc | apply pw_below_drewN | apply below_drew1) | exact HB.out)) hb); clear HB; have HB := n0_; clear n0_; (try clear hb); (try clear hb2); (try clear hk); (try clear hi))); try go_wp2_with (first | (go_at_call 16; (with_reducible refine (laws_zzFits3.calls k _ _ l0 true _ ?side1 ?side2 A2.out).mono ?_); (case side1 => repeat (first | exact HR0.out | (with_reducible refine Kd.C_alloc ?_ _) | (with_reducible refine Kd.C_drewN ?_ _) | (with_reducible refine Kd.C_drew ?_))); (case side2 => exact HC0.out); rintro e w47 ⟨rfl, hb⟩; have n0_ := Aside0.mk (below_step (by repeat (first | (with_reducible first | exact HB.out | apply below_alloc | apply pw_below_drewN | apply below_drew1) | exact HB.out)) hb); clear HB; have HB := n0_; clear n0_; (try clear hb); (try clear hb2); (try clear hk); (try clear hi)) | (go_at_call 17; (with_reducible refine (laws_cleanASCII.calls k _ _ l0 false _ ?side1 ?side2 A4.out).mono ?_); (case side1 => repeat (first | exact (Kd.C_below HR0.out HB.out) | (with_reducible refine Kd.C_alloc ?_ _) | (with_reducible refine Kd.C_drewN ?_ _) | (with_reducible refine Kd.C_drew ?_))); (case side2 => exact HC0.out); rintro e w48 ⟨rfl, hb⟩; have n0_ := Aside0.mk (below_step (by repeat (first | (with_reducible first | exact HB.out | apply below_alloc | apply pw_below_drewN | apply below_drew1) | exact HB.out)) hb); clear HB; have HB := n0_; clear n0_; (try clear hb); (try clear hb2); (try clear hk); (try clear hi)) | (go_at_call 18; (with_reducible refine (laws_cleanAwake.calls k  t220 _ ?side1 A46.out).mono ?_); (case side1 => exact Glob.below hG_ (by repeat (first | (with_reducible first | exact HB.out | apply below_alloc | apply pw_below_drewN | apply below_drew1) | exact HB.out))); rintro e w49 ⟨rfl, hb⟩; have n0_ := Aside0.mk (below_step (by repeat (first | (with_reducible first | exact HB.out | apply below_alloc | apply pw_below_drewN | apply below_drew1) | exact HB.out)) hb); clear HB; have HB := n0_; clear n0_; (try clear hb); (try clear hb2); (try clear hk); (try clear hi))))
  go_ret
  exact ⟨by first | rfl | (simp [errW_none, errW_some] <;> rfl) | (simp [*, errW_none, errW_some] <;> rfl), by repeat (first | (with_reducible first | exact HB.out | apply below_alloc | apply pw_below_drewN | apply below_drew1) | exact HB.out)⟩
 subst c5
 have H1 : (laws_FnLosslessFew.l0 k l0 1) = some r := by rw [if_pos rfl] at H; exact H
 clear H
 have H := H1
 clear H1
 have H' := Aside0.mk H
 clear H
 go_enter Tryd.func3, Tryd.ntmps3
 go_wp2_with (first | (go_at_call 16; (with_reducible refine (laws_zzFits3.calls k _ _ l0 true _ ?side1 ?side2 A2.out).mono ?_); (case side1 => repeat (first | exact HR0.out | (with_reducible refine Kd.C_alloc ?_ _) | (with_reducible refine Kd.C_drewN ?_ _) | (with_reducible refine Kd.C_drew ?_))); (case side2 => exact HC0.out); rintro e w6 ⟨rfl, hb⟩; have n0_ := Aside0.mk (below_step (by repeat (first | (with_reducible first | exact HB.out | apply below_alloc | apply pw_below_drewN | apply below_drew1) | exact HB.out)) hb); clear HB; have HB := n0_; clear n0_; (try clear hb); (try clear hb2); (try clear hk); (try clear hi)) | (go_at_call 17; (with_reducible refine (laws_cleanASCII.calls k _ _ l0 true _ ?side1 ?side2 A4.out).mono ?_); (case side1 => repeat (first | exact (Kd.C_below HR0.out HB.out) | (with_reducible refine Kd.C_alloc ?_ _) | (with_reducible refine Kd.C_drewN ?_ _) | (with_reducible refine Kd.C_drew ?_))); (case side2 => exact HC0.out); rintro e w7 ⟨rfl, hb⟩; have n0_ := Aside0.mk (below_step (by repeat (first | (with_reducible first | exact HB.out | apply below_alloc | apply pw_below_drewN | apply below_drew1) | exact HB.out)) hb); clear HB; have HB := n0_; clear n0_; (try clear hb); (try clear hb2); (try clear hk); (try clear hi)))
 repeat (go_quiet (first | (go_at_call 16; (with_reducible refine (laws_zzFits3.calls k _ _ l0 true _ ?side1 ?side2 A2.out).mono ?_); (case side1 => repeat (first | exact HR0.out | (with_reducible refine Kd.C_alloc ?_ _) | (with_reducible refine Kd.C_drewN ?_ _) | (with_reducible refine Kd.C_drew ?_))); (case side2 => exact HC0.out); rintro e w6 ⟨rfl, hb⟩; have n0_ := Aside0.mk (below_step (by repeat (first | (with_reducible first | exact HB.out | apply below_alloc | apply pw_below_drewN | apply below_drew1) | exact HB.out)) hb); clear HB; have HB := n0_; clear n0_; (try clear hb); (try clear hb2); (try clear hk); (try clear hi)) | (go_at_call 17; (with_reducible refine (laws_cleanASCII.calls k _ _ l0 true _ ?side1 ?side2 A4.out).mono ?_); (case side1 => repeat (first | exact (Kd.C_below HR0.out HB.out) | (with_reducible refine Kd.C_alloc ?_ _) | (with_reducible refine Kd.C_drewN ?_ _) | (with_reducible refine Kd.C_drew ?_))); (case side2 => exact HC0.out); rintro e w7 ⟨rfl, hb⟩; have n0_ := Aside0.mk (below_step (by repeat (first | (with_reducible first | exact HB.out | apply below_alloc | apply pw_below_drewN | apply below_drew1) | exact HB.out)) hb); clear HB; have HB := n0_; clear n0_; (try clear hb); (try clear hb2); (try clear hk); (try clear hi))); try go_wp2_with (first | (go_at_call 16; (with_reducible refine (laws_zzFits3.calls k _ _ l0 true _ ?side1 ?side2 A2.out).mono ?_); (case side1 => repeat (first | exact HR0.out | (with_reducible refine Kd.C_alloc ?_ _) | (with_reducible refine Kd.C_drewN ?_ _) | (with_reducible refine Kd.C_drew ?_))); (case side2 => exact HC0.out); rintro e w6 ⟨rfl, hb⟩; have n0_ := Aside0.mk (below_step (by repeat (first | (with_reducible first | exact HB.out | apply below_alloc | apply pw_below_drewN | apply below_drew1) | exact HB.out)) hb); clear HB; have HB := n0_; clear n0_; (try clear hb); (try clear hb2); (try clear hk); (try clear hi)) | (go_at_call 17; (with_reducible refine (laws_cleanASCII.calls k _ _ l0 true _ ?side1 ?side2 A4.out).mono ?_); (case side1 => repeat (first | exact (Kd.C_below HR0.out HB.out) | (with_reducible refine Kd.C_alloc ?_ _) | (with_reducible refine Kd.C_drewN ?_ _) | (with_reducible refine Kd.C_drew ?_))); (case side2 => exact HC0.out); rintro e w7 ⟨rfl, hb⟩; have n0_ := Aside0.mk (below_step (by repeat (first | (with_reducible first | exact HB.out | apply below_alloc | apply pw_below_drewN | apply below_drew1) | exact HB.out)) hb); clear HB; have HB := n0_; clear n0_; (try clear hb); (try clear hb2); (try clear hk); (try clear hi))))
 go_loopg [3] k (fun kq v3 w' => ∃ (x3_1 : Int), v3 = .int .i64 x3_1 ∧ Aside0 (laws_FnLosslessFew.l0 kq l0 x3_1 = some r) ∧ Aside0 (kq ≤ k) ∧ Aside0 (Below w.heap.size w w'))
 case atStart => exact ⟨(1), (by first | rfl | (simp; done) | (simp [*]; done)), H', ⟨Nat.le_refl _⟩, ⟨by repeat (first | (with_reducible first | exact HB.out | apply below_alloc | apply pw_below_drewN | apply below_drew1) | exact HB.out)⟩⟩
 case round => as_aux_lemma =>
   clear H'
   try clear p2
   try clear c3
   try clear c5
   obtain ⟨x3_1, rfl, HA, HK1, HB⟩ := hrel
   cases gk with
   | zero => exact absurd HA.out (by simp [laws_FnLosslessFew.l0])
   | succ k1 =>
    have H := HA.out
    clear HA
    simp only [laws_FnLosslessFew.l0] at H
    by_cases c8 : (wrap64 (x3_1 + 1)) < (l0.length : Int)
    ·rw [if_pos c8] at H
     have c8b0 : decide ((wrap64 (x3_1 + 1)) < (l0.length : Int)) = true := decide_eq_true c8
     clear c8
     obtain ⟨ji9, hji9⟩ : ∃ j_ : Int, (wrap64 (x3_1 - 1)) = j_ := ⟨_, rfl⟩
     replace H : (if 0 ≤ (ji9) then (if (ji9) < (l0.length : Int) then (if ((rd_T26 l0 (ji9)).f0) = 0 then (if 0 ≤ x3_1 then (if x3_1 < (l0.length : Int) then (if ((rd_T26 l0 x3_1).f0) = 0 then (laws_FnLosslessFew.l0 k1 l0 (wrap64 (x3_1 + 1))) else (if 0 ≤ (wrap64 (x3_1 + 1)) then (if ((rd_T26 l0 (wrap64 (x3_1 + 1))).f0) = 0 then ((laws_cleanAwake.f k1).bind fun t224 => (some t224)) else (laws_FnLosslessFew.l0 k1 l0 (wrap64 (x3_1 + 1)))) else (none))) else (none)) else (none)) else (laws_FnLosslessFew.l0 k1 l0 (wrap64 (x3_1 + 1)))) else (none)) else (none)) = some r := by first | (rw [hji9] at H; exact H) | (simp only [hji9] at H ⊢; exact H)
     have hji9w : (IntKind.i64.wrap (x3_1 - 1)) = ji9 := (i64_w _).trans hji9
     by_cases c10 : 0 ≤ (ji9)
     case neg =>
      rw [if_neg c10] at H
      exact absurd H (by simp)
     rw [if_pos c10] at H
     have c10b0 : decide (0 ≤ (ji9)) = true := decide_eq_true c10
     clear c10
     by_cases c11 : (ji9) < (l0.length : Int)
     case neg =>
      rw [if_neg c11] at H
      exact absurd H (by simp)
     rw [if_pos c11] at H
     have c11b0 : decide ((ji9) < (l0.length : Int)) = true := decide_eq_true c11
     clear c11
     by_cases c12 : ((rd_T26 l0 (ji9)).f0) = 0
     case neg =>
      rw [if_neg c12] at H
      have c12b0 : (((rd_T26 l0 (ji9)).f0) == 0) = false := beq_eq_false_iff_ne.mpr c12
      have c12b1 : (((rd_T26 l0 (ji9)).f0) != 0) = true := bne_iff_ne.mpr c12
      have H' := Aside0.mk H
      clear H
      have p221 : 0 ≤ ((ji9) : Int) := of_decide_eq_true (by first | (with_reducible assumption) | assumption)
      have q221 : (ji9) < (l0.length : Int) := of_decide_eq_true (by first | (with_reducible assumption) | assumption)
      obtain ⟨ad221, e221, hx221_0, hx221_1⟩ := at_T26 HR0.out (ji9) p221 q221
      cases e221
      replace hx221_0 := (HB.out.cell (World.block_lt_of_cell? w _ hx221_0)).trans hx221_0
      replace hx221_1 := (HB.out.cell (World.block_lt_of_cell? w _ hx221_1)).trans hx221_1
      replace p221 := eq_true p221
      replace q221 := eq_true q221
      go_wp2
      repeat (go_quiet (fail); try go_wp2)
      go_roundg k1
      case measure => have := HK1.out; omega
      case rel => exact ⟨(wrap64 (x3_1 + 1)), (by first | rfl | (simp; done) | (simp [*]; done)), H', ⟨by have := HK1.out; omega⟩, ⟨by repeat (first | (with_reducible first | exact HB.out | apply below_alloc | apply pw_below_drewN | apply below_drew1) | exact HB.out)⟩⟩
     rw [if_pos c12] at H
     have c12b0 : (((rd_T26 l0 (ji9)).f0) == 0) = true := beq_iff_eq.mpr c12
     have c12b1 : (((rd_T26 l0 (ji9)).f0) != 0) = false := bne_eq_false_iff_eq.mpr c12
     clear c12
     by_cases c13 : 0 ≤ x3_1
     case neg =>
      rw [if_neg c13] at H
      exact absurd H (by simp)
     rw [if_pos c13] at H
     have c13b0 : decide (0 ≤ x3_1) = true := decide_eq_true c13
     clear c13
     by_cases c14 : x3_1 < (l0.length : Int)
     case neg =>
      rw [if_neg c14] at H
      exact absurd H (by simp)
     rw [if_pos c14] at H
     have c14b0 : decide (x3_1 < (l0.length : Int)) = true := decide_eq_true c14
     clear c14
     by_cases c15 : ((rd_T26 l0 x3_1).f0) = 0
     ·rw [if_pos c15] at H
      have c15b0 : (((rd_T26 l0 x3_1).f0) == 0) = true := beq_iff_eq.mpr c15
      have c15b1 : (((rd_T26 l0 x3_1).f0) != 0) = false := bne_eq_false_iff_eq.mpr c15
      clear c15
      have H' := Aside0.mk H
      clear H
      have p221 : 0 ≤ ((ji9) : Int) := of_decide_eq_true (by first | (with_reducible assumption) | assumption)
      have q221 : (ji9) < (l0.length : Int) := of_decide_eq_true (by first | (with_reducible assumption) | assumption)
      obtain ⟨ad221, e221, hx221_0, hx221_1⟩ := at_T26 HR0.out (ji9) p221 q221
      cases e221
      replace hx221_0 := (HB.out.cell (World.block_lt_of_cell? w _ hx221_0)).trans hx221_0
      replace hx221_1 := (HB.out.cell (World.block_lt_of_cell? w _ hx221_1)).trans hx221_1
      replace p221 := eq_true p221
      replace q221 := eq_true q221
      have p222 : 0 ≤ (x3_1 : Int) := of_decide_eq_true (by first | (with_reducible assumption) | assumption)
      have q222 : x3_1 < (l0.length : Int) := of_decide_eq_true (by first | (with_reducible assumption) | assumption)
      obtain ⟨ad222, e222, hx222_0, hx222_1⟩ := at_T26 HR0.out x3_1 p222 q222
      obtain rfl : ad221 = ad222 := (by injection e222)
      replace hx222_0 := (HB.out.cell (World.block_lt_of_cell? w _ hx222_0)).trans hx222_0
      replace hx222_1 := (HB.out.cell (World.block_lt_of_cell? w _ hx222_1)).trans hx222_1
      replace p222 := eq_true p222
      replace q222 := eq_true q222
      go_wp2
      repeat (go_quiet (fail); try go_wp2)
      go_roundg k1
      case measure => have := HK1.out; omega
      case rel => exact ⟨(wrap64 (x3_1 + 1)), (by first | rfl | (simp; done) | (simp [*]; done)), H', ⟨by have := HK1.out; omega⟩, ⟨by repeat (first | (with_reducible first | exact HB.out | apply below_alloc | apply pw_below_drewN | apply below_drew1) | exact HB.out)⟩⟩
     rw [if_neg c15] at H
     have c15b0 : (((rd_T26 l0 x3_1).f0) == 0) = false := beq_eq_false_iff_ne.mpr c15
     have c15b1 : (((rd_T26 l0 x3_1).f0) != 0) = true := bne_iff_ne.mpr c15
     obtain ⟨ji16, hji16⟩ : ∃ j_ : Int, (wrap64 (x3_1 + 1)) = j_ := ⟨_, rfl⟩
     replace H : (if 0 ≤ (ji16) then (if ((rd_T26 l0 (ji16)).f0) = 0 then ((laws_cleanAwake.f k1).bind fun t224 => (some t224)) else (laws_FnLosslessFew.l0 k1 l0 ji16)) else (none)) = some r := by first | (rw [hji16] at H; exact H) | (simp only [hji16] at H ⊢; exact H)
     (try rw [hji16] at c8b0)
     have hji16w : (IntKind.i64.wrap (x3_1 + 1)) = ji16 := (i64_w _).trans hji16
     by_cases c17 : 0 ≤ (ji16)
     case neg =>
      rw [if_neg c17] at H
      exact absurd H (by simp)
     rw [if_pos c17] at H
     have c17b0 : decide (0 ≤ (ji16)) = true := decide_eq_true c17
     clear c17
     by_cases c18 : ((rd_T26 l0 (ji16)).f0) = 0
     case neg =>
      rw [if_neg c18] at H
      have c18b0 : (((rd_T26 l0 (ji16)).f0) == 0) = false := beq_eq_false_iff_ne.mpr c18
      have c18b1 : (((rd_T26 l0 (ji16)).f0) != 0) = true := bne_iff_ne.mpr c18
      have H' := Aside0.mk H
      clear H
      have p221 : 0 ≤ ((ji9) : Int) := of_decide_eq_true (by first | (with_reducible assumption) | assumption)
      have q221 : (ji9) < (l0.length : Int) := of_decide_eq_true (by first | (with_reducible assumption) | assumption)
      obtain ⟨ad221, e221, hx221_0, hx221_1⟩ := at_T26 HR0.out (ji9) p221 q221
      cases e221
      replace hx221_0 := (HB.out.cell (World.block_lt_of_cell? w _ hx221_0)).trans hx221_0
      replace hx221_1 := (HB.out.cell (World.block_lt_of_cell? w _ hx221_1)).trans hx221_1
      replace p221 := eq_true p221
      replace q221 := eq_true q221
      have p222 : 0 ≤ (x3_1 : Int) := of_decide_eq_true (by first | (with_reducible assumption) | assumption)
      have q222 : x3_1 < (l0.length : Int) := of_decide_eq_true (by first | (with_reducible assumption) | assumption)
      obtain ⟨ad222, e222, hx222_0, hx222_1⟩ := at_T26 HR0.out x3_1 p222 q222
      obtain rfl : ad221 = ad222 := (by injection e222)
      replace hx222_0 := (HB.out.cell (World.block_lt_of_cell? w _ hx222_0)).trans hx222_0
      replace hx222_1 := (HB.out.cell (World.block_lt_of_cell? w _ hx222_1)).trans hx222_1
      replace p222 := eq_true p222
      replace q222 := eq_true q222
      have p223 : 0 ≤ ((ji16) : Int) := of_decide_eq_true (by first | (with_reducible assumption) | assumption)
      have q223 : (ji16) < (l0.length : Int) := of_decide_eq_true (by first | (with_reducible assumption) | assumption)
      obtain ⟨ad223, e223, hx223_0, hx223_1⟩ := at_T26 HR0.out (ji16) p223 q223
      obtain rfl : ad221 = ad223 := (by injection e223)
      replace hx223_0 := (HB.out.cell (World.block_lt_of_cell? w _ hx223_0)).trans hx223_0
      replace hx223_1 := (HB.out.cell (World.block_lt_of_cell? w _ hx223_1)).trans hx223_1
      replace p223 := eq_true p223
      replace q223 := eq_true q223
      go_wp2
      repeat (go_quiet (fail); try go_wp2)
      go_roundg k1
      case measure => have := HK1.out; omega
      case rel => exact ⟨(ji16), (by first | rfl | (simp; done) | (simp only [← hji16] <;> (first | rfl | simp)) | (simp [*]; done)), H', ⟨by have := HK1.out; omega⟩, ⟨by repeat (first | (with_reducible first | exact HB.out | apply below_alloc | apply pw_below_drewN | apply below_drew1) | exact HB.out)⟩⟩
     rw [if_pos c18] at H
     have c18b0 : (((rd_T26 l0 (ji16)).f0) == 0) = true := beq_iff_eq.mpr c18
     have c18b1 : (((rd_T26 l0 (ji16)).f0) != 0) = false := bne_eq_false_iff_eq.mpr c18
     clear c18
     replace H := Option.bind_eq_some_iff.mp H
     obtain ⟨t224, A190, H⟩ := H
     replace H : (some t224) = some r := H
     have A19 := Aside0.mk A190
     clear A190
     obtain rfl := Option.some.inj H
     have p221 : 0 ≤ ((ji9) : Int) := of_decide_eq_true (by first | (with_reducible assumption) | assumption)
     have q221 : (ji9) < (l0.length : Int) := of_decide_eq_true (by first | (with_reducible assumption) | assumption)
     obtain ⟨ad221, e221, hx221_0, hx221_1⟩ := at_T26 HR0.out (ji9) p221 q221
     cases e221
     replace hx221_0 := (HB.out.cell (World.block_lt_of_cell? w _ hx221_0)).trans hx221_0
     replace hx221_1 := (HB.out.cell (World.block_lt_of_cell? w _ hx221_1)).trans hx221_1
     replace p221 := eq_true p221
     replace q221 := eq_true q221
     have p222 : 0 ≤ (x3_1 : Int) := of_decide_eq_true (by first | (with_reducible assumption) | assumption)
     have q222 : x3_1 < (l0.length : Int) := of_decide_eq_true (by first | (with_reducible assumption) | assumption)
     obtain ⟨ad222, e222, hx222_0, hx222_1⟩ := at_T26 HR0.out x3_1 p222 q222
     obtain rfl : ad221 = ad222 := (by injection e222)
     replace hx222_0 := (HB.out.cell (World.block_lt_of_cell? w _ hx222_0)).trans hx222_0
     replace hx222_1 := (HB.out.cell (World.block_lt_of_cell? w _ hx222_1)).trans hx222_1
     replace p222 := eq_true p222
     replace q222 := eq_true q222
     have p223 : 0 ≤ ((ji16) : Int) := of_decide_eq_true (by first | (with_reducible assumption) | assumption)
     have q223 : (ji16) < (l0.length : Int) := of_decide_eq_true (by first | (with_reducible assumption) | assumption)
     obtain ⟨ad223, e223, hx223_0, hx223_1⟩ := at_T26 HR0.out (ji16) p223 q223
     obtain rfl : ad221 = ad223 := (by injection e223)
     replace hx223_0 := (HB.out.cell (World.block_lt_of_cell? w _ hx223_0)).trans hx223_0
     replace hx223_1 := (HB.out.cell (World.block_lt_of_cell? w _ hx223_1)).trans hx223_1
     replace p223 := eq_true p223
     replace q223 := eq_true q223
     go_wp2_with (first | (go_at_call 18; (with_reducible refine (laws_cleanAwake.calls k1  t224 _ ?side1 A19.out).mono ?_); (case side1 => exact Glob.below hG_ (by repeat (first | (with_reducible first | exact HB.out | apply below_alloc | apply pw_below_drewN | apply below_drew1) | exact HB.out))); rintro e w20 ⟨rfl, hb⟩; have n0_ := Aside0.mk (below_step (by repeat (first | (with_reducible first | exact HB.out | apply below_alloc | apply pw_below_drewN | apply below_drew1) | exact HB.out)) hb); clear HB; have HB := n0_; clear n0_; (try clear hb); (try clear hb2); (try clear hk); (try clear hi)))
     repeat (go_quiet (first | (go_at_call 18; (with_reducible refine (laws_cleanAwake.calls k1  t224 _ ?side1 A19.out).mono ?_); (case side1 => exact Glob.below hG_ (by repeat (first | (with_reducible first | exact HB.out | apply below_alloc | apply pw_below_drewN | apply below_drew1) | exact HB.out))); rintro e w20 ⟨rfl, hb⟩; have n0_ := Aside0.mk (below_step (by repeat (first | (with_reducible first | exact HB.out | apply below_alloc | apply pw_below_drewN | apply below_drew1) | exact HB.out)) hb); clear HB; have HB := n0_; clear n0_; (try clear hb); (try clear hb2); (try clear hk); (try clear hi))); try go_wp2_with (first | (go_at_call 18; (with_reducible refine (laws_cleanAwake.calls k1  t224 _ ?side1 A19.out).mono ?_); (case side1 => exact Glob.below hG_ (by repeat (first | (with_reducible first | exact HB.out | apply below_alloc | apply pw_below_drewN | apply below_drew1) | exact HB.out))); rintro e w20 ⟨rfl, hb⟩; have n0_ := Aside0.mk (below_step (by repeat (first | (with_reducible first | exact HB.out | apply below_alloc | apply pw_below_drewN | apply below_drew1) | exact HB.out)) hb); clear HB; have HB := n0_; clear n0_; (try clear hb); (try clear hb2); (try clear hk); (try clear hi))))
     go_ret
     exact ⟨by first | rfl | (simp [errW_none, errW_some] <;> rfl) | (simp only [← hji9, ← hji16]; first | rfl | (simp [errW_none, errW_some] <;> rfl)) | (simp [*, errW_none, errW_some] <;> rfl), by repeat (first | (with_reducible first | exact HB.out | apply below_alloc | apply pw_below_drewN | apply below_drew1) | exact HB.out)⟩
    rw [if_neg c8] at H
    have c8b0 : decide ((wrap64 (x3_1 + 1)) < (l0.length : Int)) = false := decide_eq_false c8
    clear c8
    have H' := Aside0.mk H
    clear H
    go_wp2
    repeat (go_quiet (fail); try go_wp2)
    go_loopg [4] k1 (fun kq v4 w' => ∃ (x4_2 : Int), v4 = .int .i64 x4_2 ∧ Aside0 (laws_FnLosslessFew.l1 kq l0 x4_2 = some r) ∧ Aside0 (kq ≤ k1) ∧ Aside0 (Below w.heap.size w w'))
    case atStart => exact ⟨(1), (by first | rfl | (simp; done) | (simp [*]; done)), H', ⟨Nat.le_refl _⟩, ⟨by repeat (first | (with_reducible first | exact HB.out | apply below_alloc | apply pw_below_drewN | apply below_drew1) | exact HB.out)⟩⟩
    case round => as_aux_lemma =>
      clear H'
      try clear c1
      try clear p2
      try clear q2
      try clear hx2
      try clear c3
      try clear c5
      try clear p6
      try clear c8
      try clear c8b0
      try clear c10
      try clear c10b0
      try clear c11
      try clear c11b0
      try clear c12
      try clear c12b0
      try clear c12b1
      try clear c13
      try clear c13b0
      try clear c14
      try clear c14b0
      try clear c15
      try clear c15b0
      try clear c15b1
      try clear c17
      try clear c17b0
      try clear c18
      try clear c18b0
      try clear c18b1
      try clear hx221_0
      try clear hx221_1
      try clear hx222_0
      try clear hx222_1
      try clear hx223_0
      try clear hx223_1
      try clear p2
      try clear p221
      try clear p222
      try clear p223
      try clear q221
      try clear q222
      try clear q223
      obtain ⟨x4_2, rfl, HA, HK2, HB⟩ := hrel
      cases gk with
      | zero => exact absurd HA.out (by simp [laws_FnLosslessFew.l1])
      | succ k2 =>
       have H := HA.out
       clear HA
       simp only [laws_FnLosslessFew.l1] at H
       by_cases c21 : x4_2 < (l0.length : Int)
       ·rw [if_pos c21] at H
        have c21b0 : decide (x4_2 < (l0.length : Int)) = true := decide_eq_true c21
        clear c21
        obtain ⟨ji22, hji22⟩ : ∃ j_ : Int, (wrap64 (x4_2 - 1)) = j_ := ⟨_, rfl⟩
        replace H : (if 0 ≤ (ji22) then (if (ji22) < (l0.length : Int) then (if 0 ≤ x4_2 then (if ((rd_T26 l0 (ji22)).f0) = ((rd_T26 l0 x4_2).f0) then ((laws_cleanAwake.f k2).bind fun t227 => (some t227)) else (laws_FnLosslessFew.l1 k2 l0 (wrap64 (x4_2 + 1)))) else (none)) else (none)) else (none)) = some r := by first | (rw [hji22] at H; exact H) | (simp only [hji22] at H ⊢; exact H)
        have hji22w : (IntKind.i64.wrap (x4_2 - 1)) = ji22 := (i64_w _).trans hji22
        by_cases c23 : 0 ≤ (ji22)
        case neg =>
         rw [if_neg c23] at H
         exact absurd H (by simp)
        rw [if_pos c23] at H
        have c23b0 : decide (0 ≤ (ji22)) = true := decide_eq_true c23
        clear c23
        by_cases c24 : (ji22) < (l0.length : Int)
        case neg =>
         rw [if_neg c24] at H
         exact absurd H (by simp)
        rw [if_pos c24] at H
        have c24b0 : decide ((ji22) < (l0.length : Int)) = true := decide_eq_true c24
        clear c24
        by_cases c25 : 0 ≤ x4_2
        case neg =>
         rw [if_neg c25] at H
         exact absurd H (by simp)
        rw [if_pos c25] at H
        have c25b0 : decide (0 ≤ x4_2) = true := decide_eq_true c25
        clear c25
        by_cases c26 : ((rd_T26 l0 (ji22)).f0) = ((rd_T26 l0 x4_2).f0)
        case neg =>
         rw [if_neg c26] at H
         have c26b0 : (((rd_T26 l0 (ji22)).f0) == ((rd_T26 l0 x4_2).f0)) = false := beq_eq_false_iff_ne.mpr c26
         have c26b1 : (((rd_T26 l0 (ji22)).f0) != ((rd_T26 l0 x4_2).f0)) = true := bne_iff_ne.mpr c26
         have H' := Aside0.mk H
         clear H
         have p225 : 0 ≤ ((ji22) : Int) := of_decide_eq_true (by first | (with_reducible assumption) | assumption)
         have q225 : (ji22) < (l0.length : Int) := of_decide_eq_true (by first | (with_reducible assumption) | assumption)
         obtain ⟨ad225, e225, hx225_0, hx225_1⟩ := at_T26 HR0.out (ji22) p225 q225
         cases e225
         replace hx225_0 := (HB.out.cell (World.block_lt_of_cell? w _ hx225_0)).trans hx225_0
         replace hx225_1 := (HB.out.cell (World.block_lt_of_cell? w _ hx225_1)).trans hx225_1
         replace p225 := eq_true p225
         replace q225 := eq_true q225
         have p226 : 0 ≤ (x4_2 : Int) := of_decide_eq_true (by first | (with_reducible assumption) | assumption)
         have q226 : x4_2 < (l0.length : Int) := of_decide_eq_true (by first | (with_reducible assumption) | assumption)
         obtain ⟨ad226, e226, hx226_0, hx226_1⟩ := at_T26 HR0.out x4_2 p226 q226
         obtain rfl : ad225 = ad226 := (by injection e226)
         replace hx226_0 := (HB.out.cell (World.block_lt_of_cell? w _ hx226_0)).trans hx226_0
         replace hx226_1 := (HB.out.cell (World.block_lt_of_cell? w _ hx226_1)).trans hx226_1
         replace p226 := eq_true p226
         replace q226 := eq_true q226
         go_wp2
         repeat (go_quiet (fail); try go_wp2)
         go_roundg k2
         case measure => have := HK1.out; have := HK2.out; omega
         case rel => exact ⟨(wrap64 (x4_2 + 1)), (by first | rfl | (simp; done) | (simp [*]; done)), H', ⟨by have := HK1.out; have := HK2.out; omega⟩, ⟨by repeat (first | (with_reducible first | exact HB.out | apply below_alloc | apply pw_below_drewN | apply below_drew1) | exact HB.out)⟩⟩
        rw [if_pos c26] at H
        have c26b0 : (((rd_T26 l0 (ji22)).f0) == ((rd_T26 l0 x4_2).f0)) = true := beq_iff_eq.mpr c26
        have c26b1 : (((rd_T26 l0 (ji22)).f0) != ((rd_T26 l0 x4_2).f0)) = false := bne_eq_false_iff_eq.mpr c26
        clear c26
        replace H := Option.bind_eq_some_iff.mp H
        obtain ⟨t227, A270, H⟩ := H
        replace H : (some t227) = some r := H
        have A27 := Aside0.mk A270
        clear A270
        obtain rfl := Option.some.inj H
        have p225 : 0 ≤ ((ji22) : Int) := of_decide_eq_true (by first | (with_reducible assumption) | assumption)
        have q225 : (ji22) < (l0.length : Int) := of_decide_eq_true (by first | (with_reducible assumption) | assumption)
        obtain ⟨ad225, e225, hx225_0, hx225_1⟩ := at_T26 HR0.out (ji22) p225 q225
        cases e225
        replace hx225_0 := (HB.out.cell (World.block_lt_of_cell? w _ hx225_0)).trans hx225_0
        replace hx225_1 := (HB.out.cell (World.block_lt_of_cell? w _ hx225_1)).trans hx225_1
        replace p225 := eq_true p225
        replace q225 := eq_true q225
        have p226 : 0 ≤ (x4_2 : Int) := of_decide_eq_true (by first | (with_reducible assumption) | assumption)
        have q226 : x4_2 < (l0.length : Int) := of_decide_eq_true (by first | (with_reducible assumption) | assumption)
        obtain ⟨ad226, e226, hx226_0, hx226_1⟩ := at_T26 HR0.out x4_2 p226 q226
        obtain rfl : ad225 = ad226 := (by injection e226)
        replace hx226_0 := (HB.out.cell (World.block_lt_of_cell? w _ hx226_0)).trans hx226_0
        replace hx226_1 := (HB.out.cell (World.block_lt_of_cell? w _ hx226_1)).trans hx226_1
        replace p226 := eq_true p226
        replace q226 := eq_true q226
        go_wp2_with (first | (go_at_call 18; (with_reducible refine (laws_cleanAwake.calls k2  t227 _ ?side1 A27.out).mono ?_); (case side1 => exact Glob.below hG_ (by repeat (first | (with_reducible first | exact HB.out | apply below_alloc | apply pw_below_drewN | apply below_drew1) | exact HB.out))); rintro e w28 ⟨rfl, hb⟩; have n0_ := Aside0.mk (below_step (by repeat (first | (with_reducible first | exact HB.out | apply below_alloc | apply pw_below_drewN | apply below_drew1) | exact HB.out)) hb); clear HB; have HB := n0_; clear n0_; (try clear hb); (try clear hb2); (try clear hk); (try clear hi)))
        repeat (go_quiet (first | (go_at_call 18; (with_reducible refine (laws_cleanAwake.calls k2  t227 _ ?side1 A27.out).mono ?_); (case side1 => exact Glob.below hG_ (by repeat (first | (with_reducible first | exact HB.out | apply below_alloc | apply pw_below_drewN | apply below_drew1) | exact HB.out))); rintro e w28 ⟨rfl, hb⟩; have n0_ := Aside0.mk (below_step (by repeat (first | (with_reducible first | exact HB.out | apply below_alloc | apply pw_below_drewN | apply below_drew1) | exact HB.out)) hb); clear HB; have HB := n0_; clear n0_; (try clear hb); (try clear hb2); (try clear hk); (try clear hi))); try go_wp2_with (first | (go_at_call 18; (with_reducible refine (laws_cleanAwake.calls k2  t227 _ ?side1 A27.out).mono ?_); (case side1 => exact Glob.below hG_ (by repeat (first | (with_reducible first | exact HB.out | apply below_alloc | apply pw_below_drewN | apply below_drew1) | exact HB.out))); rintro e w28 ⟨rfl, hb⟩; have n0_ := Aside0.mk (below_step (by repeat (first | (with_reducible first | exact HB.out | apply below_alloc | apply pw_below_drewN | apply below_drew1) | exact HB.out)) hb); clear HB; have HB := n0_; clear n0_; (try clear hb); (try clear hb2); (try clear hk); (try clear hi))))
        go_ret
        exact ⟨by first | rfl | (simp [errW_none, errW_some] <;> rfl) | (simp only [← hji22]; first | rfl | (simp [errW_none, errW_some] <;> rfl)) | (simp [*, errW_none, errW_some] <;> rfl), by repeat (first | (with_reducible first | exact HB.out | apply below_alloc | apply pw_below_drewN | apply below_drew1) | exact HB.out)⟩
       rw [if_neg c21] at H
       have c21b0 : decide (x4_2 < (l0.length : Int)) = false := decide_eq_false c21
       clear c21
       replace H := Option.bind_eq_some_iff.mp H
       obtain ⟨t228, A290, H⟩ := H
       replace H : (if t228 = true then ((laws_cleanOf.f k2 l0).bind fun t229 => ((laws_cleanOwn.f l0).bind fun t232 => ((impl_CleanLossless.f k2 t232).bind fun t235 => ((laws_cleanOf.f k2 t235).bind fun t238 => ((spec_CleanSame.f k2 t229 t238).bind fun t241 => (some t241)))))) else (some false)) = some r := H
       have A29 := Aside0.mk A290
       clear A290
       by_cases c30 : t228 = true
       case neg =>
        replace c30 := Bool.eq_false_iff.mpr c30
        subst c30
        have H1 : (some false) = some r := by rw [if_neg (show ¬ (false = true) by decide)] at H; exact H
        clear H
        have H := H1
        clear H1
        obtain rfl := Option.some.inj H
        go_wp2_with (first | (go_at_call 18; (with_reducible refine (laws_cleanAwake.calls k2  false _ ?side1 A29.out).mono ?_); (case side1 => exact Glob.below hG_ (by repeat (first | (with_reducible first | exact HB.out | apply below_alloc | apply pw_below_drewN | apply below_drew1) | exact HB.out))); rintro e w45 ⟨rfl, hb⟩; have n0_ := Aside0.mk (below_step (by repeat (first | (with_reducible first | exact HB.out | apply below_alloc | apply pw_below_drewN | apply below_drew1) | exact HB.out)) hb); clear HB; have HB := n0_; clear n0_; (try clear hb); (try clear hb2); (try clear hk); (try clear hi)))
        repeat (go_quiet (first | (go_at_call 18; (with_reducible refine (laws_cleanAwake.calls k2  false _ ?side1 A29.out).mono ?_); (case side1 => exact Glob.below hG_ (by repeat (first | (with_reducible first | exact HB.out | apply below_alloc | apply pw_below_drewN | apply below_drew1) | exact HB.out))); rintro e w45 ⟨rfl, hb⟩; have n0_ := Aside0.mk (below_step (by repeat (first | (with_reducible first | exact HB.out | apply below_alloc | apply pw_below_drewN | apply below_drew1) | exact HB.out)) hb); clear HB; have HB := n0_; clear n0_; (try clear hb); (try clear hb2); (try clear hk); (try clear hi))); try go_wp2_with (first | (go_at_call 18; (with_reducible refine (laws_cleanAwake.calls k2  false _ ?side1 A29.out).mono ?_); (case side1 => exact Glob.below hG_ (by repeat (first | (with_reducible first | exact HB.out | apply below_alloc | apply pw_below_drewN | apply below_drew1) | exact HB.out))); rintro e w45 ⟨rfl, hb⟩; have n0_ := Aside0.mk (below_step (by repeat (first | (with_reducible first | exact HB.out | apply below_alloc | apply pw_below_drewN | apply below_drew1) | exact HB.out)) hb); clear HB; have HB := n0_; clear n0_; (try clear hb); (try clear hb2); (try clear hk); (try clear hi))))
        go_ret
        exact ⟨by first | rfl | (simp [errW_none, errW_some] <;> rfl) | (simp [*, errW_none, errW_some] <;> rfl), by repeat (first | (with_reducible first | exact HB.out | apply below_alloc | apply pw_below_drewN | apply below_drew1) | exact HB.out)⟩
       as_aux_lemma =>
        subst c30
        have H1 : ((laws_cleanOf.f k2 l0).bind fun t229 => ((laws_cleanOwn.f l0).bind fun t232 => ((impl_CleanLossless.f k2 t232).bind fun t235 => ((laws_cleanOf.f k2 t235).bind fun t238 => ((spec_CleanSame.f k2 t229 t238).bind fun t241 => (some t241)))))) = some r := by rw [if_pos rfl] at H; exact H
        clear H
        have H := H1
        clear H1
        replace H := Option.bind_eq_some_iff.mp H
        obtain ⟨t229, A310, H⟩ := H
        replace H : ((laws_cleanOwn.f l0).bind fun t232 => ((impl_CleanLossless.f k2 t232).bind fun t235 => ((laws_cleanOf.f k2 t235).bind fun t238 => ((spec_CleanSame.f k2 t229 t238).bind fun t241 => (some t241))))) = some r := H
        have A31 := Aside0.mk A310
        clear A310
        replace H := Option.bind_eq_some_iff.mp H
        obtain ⟨t232, A320, H⟩ := H
        replace H : ((impl_CleanLossless.f k2 t232).bind fun t235 => ((laws_cleanOf.f k2 t235).bind fun t238 => ((spec_CleanSame.f k2 t229 t238).bind fun t241 => (some t241)))) = some r := H
        have A32 := Aside0.mk A320
        clear A320
        replace H := Option.bind_eq_some_iff.mp H
        obtain ⟨t235, A330, H⟩ := H
        replace H : ((laws_cleanOf.f k2 t235).bind fun t238 => ((spec_CleanSame.f k2 t229 t238).bind fun t241 => (some t241))) = some r := H
        have A33 := Aside0.mk A330
        clear A330
        replace H := Option.bind_eq_some_iff.mp H
        obtain ⟨t238, A340, H⟩ := H
        replace H : ((spec_CleanSame.f k2 t229 t238).bind fun t241 => (some t241)) = some r := H
        have A34 := Aside0.mk A340
        clear A340
        replace H := Option.bind_eq_some_iff.mp H
        obtain ⟨t241, A350, H⟩ := H
        replace H : (some t241) = some r := H
        have A35 := Aside0.mk A350
        clear A350
        obtain rfl := Option.some.inj H
        go_wp2_with (first | (go_at_call 18; (with_reducible refine (laws_cleanAwake.calls k2  true _ ?side1 A29.out).mono ?_); (case side1 => exact Glob.below hG_ (by repeat (first | (with_reducible first | exact HB.out | apply below_alloc | apply pw_below_drewN | apply below_drew1) | exact HB.out))); rintro e w36 ⟨rfl, hb⟩; have n0_ := Aside0.mk (below_step (by repeat (first | (with_reducible first | exact HB.out | apply below_alloc | apply pw_below_drewN | apply below_drew1) | exact HB.out)) hb); clear HB; have HB := n0_; clear n0_; (try clear hb); (try clear hb2); (try clear hk); (try clear hi)) | (go_at_call 20; (with_reducible refine (laws_cleanOf.calls k2 _ _ l0 t229 _ ?side1 ?side2 A31.out).mono ?_); (case side1 => repeat (first | exact (Kd.C_below HR0.out HB.out) | (with_reducible refine Kd.C_alloc ?_ _) | (with_reducible refine Kd.C_drewN ?_ _) | (with_reducible refine Kd.C_drew ?_))); (case side2 => exact HC0.out); rintro e w37 ⟨v230, rfl, ho0, hb⟩; have n0_ := Aside0.mk (Kd.R_lower ho0 (below_size (by repeat (first | (with_reducible first | exact HB.out | apply below_alloc | apply pw_below_drewN | apply below_drew1) | exact HB.out)))); have n1_ := Aside0.mk (below_step (by repeat (first | (with_reducible first | exact HB.out | apply below_alloc | apply pw_below_drewN | apply below_drew1) | exact HB.out)) hb); clear HB; have HO231 := n0_; have HB := n1_; clear n0_ n1_; (try clear hb); (try clear hb2); (try clear hk); (try clear hi); (try clear ho0)) | (go_at_call 22; (with_reducible refine (laws_cleanOwn.calls _ _ l0 t232 _ ?side1 ?side2 A32.out).mono ?_); (case side1 => repeat (first | exact (Kd.C_below HR0.out HB.out) | (with_reducible refine Kd.C_alloc ?_ _) | (with_reducible refine Kd.C_drewN ?_ _) | (with_reducible refine Kd.C_drew ?_))); (case side2 => exact HC0.out); rintro e w38 ⟨v233, rfl, ho0, hb⟩; have n0_ := Aside0.mk (Kd.R_below (by (with_reducible repeat (first | apply Kd.R_alloc | apply Kd.R_drewN | apply Kd.R_drew)); exact HO231.out) hb); have n1_ := Aside0.mk (Kd.R_lower ho0 (below_size (by repeat (first | (with_reducible first | exact HB.out | apply below_alloc | apply pw_below_drewN | apply below_drew1) | exact HB.out)))); have n2_ := Aside0.mk (below_step (by repeat (first | (with_reducible first | exact HB.out | apply below_alloc | apply pw_below_drewN | apply below_drew1) | exact HB.out)) hb); clear HO231; clear HB; have HO231 := n0_; have HO234 := n1_; have HB := n2_; clear n0_ n1_ n2_; (try clear hb); (try clear hb2); (try clear hk); (try clear hi); (try clear ho0); obtain ⟨Ao39, co39, eo39⟩ := Kd.R_slice HO234.out; subst eo39) | (go_at_call 21; (with_reducible refine (impl_CleanLossless.calls k2 _ _ t232 t235 _ ?side1 ?side2 ?side3 A33.out).mono ?_); (case side1 => exact Glob.below hG_ (by repeat (first | (with_reducible first | exact HB.out | apply below_alloc | apply pw_below_drewN | apply below_drew1) | exact HB.out))); (case side2 => repeat (first | exact (Kd.R_reads' HO234.out).2.2 | (with_reducible refine Kd.C_alloc ?_ _) | (with_reducible refine Kd.C_drewN ?_ _) | (with_reducible refine Kd.C_drew ?_))); (case side3 => exact (Kd.R_reads' HO234.out).2.1); rintro e w40 ⟨v236, rfl, ho0, hb⟩; have n0_ := Aside0.mk (Kd.R_below (by (with_reducible repeat (first | apply Kd.R_alloc | apply Kd.R_drewN | apply Kd.R_drew)); exact HO231.out) hb); have n1_ := Aside0.mk (Kd.R_elder' (by (with_reducible repeat (first | apply Kd.R_alloc | apply Kd.R_drewN | apply Kd.R_drew)); exact HO234.out) (Kd.R_base ho0) hb); have n2_ := Aside0.mk (Kd.R_lower (Kd.R_new' ho0 (Kd.R_lt (by (with_reducible repeat (first | apply Kd.R_alloc | apply Kd.R_drewN | apply Kd.R_drew)); exact HO234.out))) (below_size (by repeat (first | (with_reducible first | exact HB.out | apply below_alloc | apply pw_below_drewN | apply below_drew1) | exact HB.out)))); have n3_ := Aside0.mk (below_step (by repeat (first | (with_reducible first | exact HB.out | apply below_alloc | apply pw_below_drewN | apply below_drew1) | exact HB.out)) hb); clear HO231; clear HO234; clear HB; have HO231 := n0_; have HO234 := n1_; have HO237 := n2_; have HB := n3_; clear n0_ n1_ n2_ n3_; (try clear hb); (try clear hb2); (try clear hk); (try clear hi); (try clear ho0); obtain ⟨Ao41, co41, eo41⟩ := Kd.R_slice HO237.out; subst eo41) | (go_at_call 20; (with_reducible refine (laws_cleanOf.calls k2 _ _ t235 t238 _ ?side1 ?side2 A34.out).mono ?_); (case side1 => repeat (first | exact (Kd.R_reads' HO237.out).2.2 | (with_reducible refine Kd.C_alloc ?_ _) | (with_reducible refine Kd.C_drewN ?_ _) | (with_reducible refine Kd.C_drew ?_))); (case side2 => exact (Kd.R_reads' HO237.out).2.1); rintro e w42 ⟨v239, rfl, ho0, hb⟩; have n0_ := Aside0.mk (Kd.R_elder' (by (with_reducible repeat (first | apply Kd.R_alloc | apply Kd.R_drewN | apply Kd.R_drew)); exact HO231.out) (Kd.R_base ho0) hb); have n1_ := Aside0.mk (Kd.R_below (by (with_reducible repeat (first | apply Kd.R_alloc | apply Kd.R_drewN | apply Kd.R_drew)); exact HO234.out) hb); have n2_ := Aside0.mk (Kd.R_below (by (with_reducible repeat (first | apply Kd.R_alloc | apply Kd.R_drewN | apply Kd.R_drew)); exact HO237.out) hb); have n3_ := Aside0.mk (Kd.R_lower (Kd.R_new' ho0 (Kd.R_lt (by (with_reducible repeat (first | apply Kd.R_alloc | apply Kd.R_drewN | apply Kd.R_drew)); exact HO231.out))) (below_size (by repeat (first | (with_reducible first | exact HB.out | apply below_alloc | apply pw_below_drewN | apply below_drew1) | exact HB.out)))); have n4_ := Aside0.mk (below_step (by repeat (first | (with_reducible first | exact HB.out | apply below_alloc | apply pw_below_drewN | apply below_drew1) | exact HB.out)) hb); clear HO231; clear HO234; clear HO237; clear HB; have HO231 := n0_; have HO234 := n1_; have HO237 := n2_; have HO240 := n3_; have HB := n4_; clear n0_ n1_ n2_ n3_ n4_; (try clear hb); (try clear hb2); (try clear hk); (try clear hi); (try clear ho0); obtain ⟨Ao43, co43, eo43⟩ := Kd.R_slice HO231.out; subst eo43; obtain ⟨Ao44, co44, eo44⟩ := Kd.R_slice HO240.out; subst eo44) | (go_at_call 19; (with_reducible refine (spec_CleanSame.calls k2 _ _ t229 _ _ t238 t241 _ ?side1 ?side2 ?side3 ?side4 A35.out).mono ?_); (case side1 => repeat (first | exact (Kd.R_reads' HO231.out).2.2 | (with_reducible refine Kd.C_alloc ?_ _) | (with_reducible refine Kd.C_drewN ?_ _) | (with_reducible refine Kd.C_drew ?_))); (case side2 => exact (Kd.R_reads' HO231.out).2.1); (case side3 => repeat (first | exact (Kd.R_reads' HO240.out).2.2 | (with_reducible refine Kd.C_alloc ?_ _) | (with_reducible refine Kd.C_drewN ?_ _) | (with_reducible refine Kd.C_drew ?_))); (case side4 => exact (Kd.R_reads' HO240.out).2.1); rintro e w' ⟨rfl, ⟨nd, rfl⟩⟩; (try first | exact ⟨rfl, _, World.drewN_drewN _ _ _⟩ | exact ⟨rfl, _, Eq.trans (World.drewN_drewN _ _ _) (congrArg (World.drewN _) (Nat.add_assoc _ _ _))⟩)))
        repeat (go_quiet (first | (go_at_call 18; (with_reducible refine (laws_cleanAwake.calls k2  true _ ?side1 A29.out).mono ?_); (case side1 => exact Glob.below hG_ (by repeat (first | (with_reducible first | exact HB.out | apply below_alloc | apply pw_below_drewN | apply below_drew1) | exact HB.out))); rintro e w36 ⟨rfl, hb⟩; have n0_ := Aside0.mk (below_step (by repeat (first | (with_reducible first | exact HB.out | apply below_alloc | apply pw_below_drewN | apply below_drew1) | exact HB.out)) hb); clear HB; have HB := n0_; clear n0_; (try clear hb); (try clear hb2); (try clear hk); (try clear hi)) | (go_at_call 20; (with_reducible refine (laws_cleanOf.calls k2 _ _ l0 t229 _ ?side1 ?side2 A31.out).mono ?_); (case side1 => repeat (first | exact (Kd.C_below HR0.out HB.out) | (with_reducible refine Kd.C_alloc ?_ _) | (with_reducible refine Kd.C_drewN ?_ _) | (with_reducible refine Kd.C_drew ?_))); (case side2 => exact HC0.out); rintro e w37 ⟨v230, rfl, ho0, hb⟩; have n0_ := Aside0.mk (Kd.R_lower ho0 (below_size (by repeat (first | (with_reducible first | exact HB.out | apply below_alloc | apply pw_below_drewN | apply below_drew1) | exact HB.out)))); have n1_ := Aside0.mk (below_step (by repeat (first | (with_reducible first | exact HB.out | apply below_alloc | apply pw_below_drewN | apply below_drew1) | exact HB.out)) hb); clear HB; have HO231 := n0_; have HB := n1_; clear n0_ n1_; (try clear hb); (try clear hb2); (try clear hk); (try clear hi); (try clear ho0)) | (go_at_call 22; (with_reducible refine (laws_cleanOwn.calls _ _ l0 t232 _ ?side1 ?side2 A32.out).mono ?_); (case side1 => repeat (first | exact (Kd.C_below HR0.out HB.out) | (with_reducible refine Kd.C_alloc ?_ _) | (with_reducible refine Kd.C_drewN ?_ _) | (with_reducible refine Kd.C_drew ?_))); (case side2 => exact HC0.out); rintro e w38 ⟨v233, rfl, ho0, hb⟩; have n0_ := Aside0.mk (Kd.R_below (by (with_reducible repeat (first | apply Kd.R_alloc | apply Kd.R_drewN | apply Kd.R_drew)); exact HO231.out) hb); have n1_ := Aside0.mk (Kd.R_lower ho0 (below_size (by repeat (first | (with_reducible first | exact HB.out | apply below_alloc | apply pw_below_drewN | apply below_drew1) | exact HB.out)))); have n2_ := Aside0.mk (below_step (by repeat (first | (with_reducible first | exact HB.out | apply below_alloc | apply pw_below_drewN | apply below_drew1) | exact HB.out)) hb); clear HO231; clear HB; have HO231 := n0_; have HO234 := n1_; have HB := n2_; clear n0_ n1_ n2_; (try clear hb); (try clear hb2); (try clear hk); (try clear hi); (try clear ho0); obtain ⟨Ao39, co39, eo39⟩ := Kd.R_slice HO234.out; subst eo39) | (go_at_call 21; (with_reducible refine (impl_CleanLossless.calls k2 _ _ t232 t235 _ ?side1 ?side2 ?side3 A33.out).mono ?_); (case side1 => exact Glob.below hG_ (by repeat (first | (with_reducible first | exact HB.out | apply below_alloc | apply pw_below_drewN | apply below_drew1) | exact HB.out))); (case side2 => repeat (first | exact (Kd.R_reads' HO234.out).2.2 | (with_reducible refine Kd.C_alloc ?_ _) | (with_reducible refine Kd.C_drewN ?_ _) | (with_reducible refine Kd.C_drew ?_))); (case side3 => exact (Kd.R_reads' HO234.out).2.1); rintro e w40 ⟨v236, rfl, ho0, hb⟩; have n0_ := Aside0.mk (Kd.R_below (by (with_reducible repeat (first | apply Kd.R_alloc | apply Kd.R_drewN | apply Kd.R_drew)); exact HO231.out) hb); have n1_ := Aside0.mk (Kd.R_elder' (by (with_reducible repeat (first | apply Kd.R_alloc | apply Kd.R_drewN | apply Kd.R_drew)); exact HO234.out) (Kd.R_base ho0) hb); have n2_ := Aside0.mk (Kd.R_lower (Kd.R_new' ho0 (Kd.R_lt (by (with_reducible repeat (first | apply Kd.R_alloc | apply Kd.R_drewN | apply Kd.R_drew)); exact HO234.out))) (below_size (by repeat (first | (with_reducible first | exact HB.out | apply below_alloc | apply pw_below_drewN | apply below_drew1) | exact HB.out)))); have n3_ := Aside0.mk (below_step (by repeat (first | (with_reducible first | exact HB.out | apply below_alloc | apply pw_below_drewN | apply below_drew1) | exact HB.out)) hb); clear HO231; clear HO234; clear HB; have HO231 := n0_; have HO234 := n1_; have HO237 := n2_; have HB := n3_; clear n0_ n1_ n2_ n3_; (try clear hb); (try clear hb2); (try clear hk); (try clear hi); (try clear ho0); obtain ⟨Ao41, co41, eo41⟩ := Kd.R_slice HO237.out; subst eo41) | (go_at_call 20; (with_reducible refine (laws_cleanOf.calls k2 _ _ t235 t238 _ ?side1 ?side2 A34.out).mono ?_); (case side1 => repeat (first | exact (Kd.R_reads' HO237.out).2.2 | (with_reducible refine Kd.C_alloc ?_ _) | (with_reducible refine Kd.C_drewN ?_ _) | (with_reducible refine Kd.C_drew ?_))); (case side2 => exact (Kd.R_reads' HO237.out).2.1); rintro e w42 ⟨v239, rfl, ho0, hb⟩; have n0_ := Aside0.mk (Kd.R_elder' (by (with_reducible repeat (first | apply Kd.R_alloc | apply Kd.R_drewN | apply Kd.R_drew)); exact HO231.out) (Kd.R_base ho0) hb); have n1_ := Aside0.mk (Kd.R_below (by (with_reducible repeat (first | apply Kd.R_alloc | apply Kd.R_drewN | apply Kd.R_drew)); exact HO234.out) hb); have n2_ := Aside0.mk (Kd.R_below (by (with_reducible repeat (first | apply Kd.R_alloc | apply Kd.R_drewN | apply Kd.R_drew)); exact HO237.out) hb); have n3_ := Aside0.mk (Kd.R_lower (Kd.R_new' ho0 (Kd.R_lt (by (with_reducible repeat (first | apply Kd.R_alloc | apply Kd.R_drewN | apply Kd.R_drew)); exact HO231.out))) (below_size (by repeat (first | (with_reducible first | exact HB.out | apply below_alloc | apply pw_below_drewN | apply below_drew1) | exact HB.out)))); have n4_ := Aside0.mk (below_step (by repeat (first | (with_reducible first | exact HB.out | apply below_alloc | apply pw_below_drewN | apply below_drew1) | exact HB.out)) hb); clear HO231; clear HO234; clear HO237; clear HB; have HO231 := n0_; have HO234 := n1_; have HO237 := n2_; have HO240 := n3_; have HB := n4_; clear n0_ n1_ n2_ n3_ n4_; (try clear hb); (try clear hb2); (try clear hk); (try clear hi); (try clear ho0); obtain ⟨Ao43, co43, eo43⟩ := Kd.R_slice HO231.out; subst eo43; obtain ⟨Ao44, co44, eo44⟩ := Kd.R_slice HO240.out; subst eo44) | (go_at_call 19; (with_reducible refine (spec_CleanSame.calls k2 _ _ t229 _ _ t238 t241 _ ?side1 ?side2 ?side3 ?side4 A35.out).mono ?_); (case side1 => repeat (first | exact (Kd.R_reads' HO231.out).2.2 | (with_reducible refine Kd.C_alloc ?_ _) | (with_reducible refine Kd.C_drewN ?_ _) | (with_reducible refine Kd.C_drew ?_))); (case side2 => exact (Kd.R_reads' HO231.out).2.1); (case side3 => repeat (first | exact (Kd.R_reads' HO240.out).2.2 | (with_reducible refine Kd.C_alloc ?_ _) | (with_reducible refine Kd.C_drewN ?_ _) | (with_reducible refine Kd.C_drew ?_))); (case side4 => exact (Kd.R_reads' HO240.out).2.1); rintro e w' ⟨rfl, ⟨nd, rfl⟩⟩; (try first | exact ⟨rfl, _, World.drewN_drewN _ _ _⟩ | exact ⟨rfl, _, Eq.trans (World.drewN_drewN _ _ _) (congrArg (World.drewN _) (Nat.add_assoc _ _ _))⟩))); try go_wp2_with (first | (go_at_call 18; (with_reducible refine (laws_cleanAwake.calls k2  true _ ?side1 A29.out).mono ?_); (case side1 => exact Glob.below hG_ (by repeat (first | (with_reducible first | exact HB.out | apply below_alloc | apply pw_below_drewN | apply below_drew1) | exact HB.out))); rintro e w36 ⟨rfl, hb⟩; have n0_ := Aside0.mk (below_step (by repeat (first | (with_reducible first | exact HB.out | apply below_alloc | apply pw_below_drewN | apply below_drew1) | exact HB.out)) hb); clear HB; have HB := n0_; clear n0_; (try clear hb); (try clear hb2); (try clear hk); (try clear hi)) | (go_at_call 20; (with_reducible refine (laws_cleanOf.calls k2 _ _ l0 t229 _ ?side1 ?side2 A31.out).mono ?_); (case side1 => repeat (first | exact (Kd.C_below HR0.out HB.out) | (with_reducible refine Kd.C_alloc ?_ _) | (with_reducible refine Kd.C_drewN ?_ _) | (with_reducible refine Kd.C_drew ?_))); (case side2 => exact HC0.out); rintro e w37 ⟨v230, rfl, ho0, hb⟩; have n0_ := Aside0.mk (Kd.R_lower ho0 (below_size (by repeat (first | (with_reducible first | exact HB.out | apply below_alloc | apply pw_below_drewN | apply below_drew1) | exact HB.out)))); have n1_ := Aside0.mk (below_step (by repeat (first | (with_reducible first | exact HB.out | apply below_alloc | apply pw_below_drewN | apply below_drew1) | exact HB.out)) hb); clear HB; have HO231 := n0_; have HB := n1_; clear n0_ n1_; (try clear hb); (try clear hb2); (try clear hk); (try clear hi); (try clear ho0)) | (go_at_call 22; (with_reducible refine (laws_cleanOwn.calls _ _ l0 t232 _ ?side1 ?side2 A32.out).mono ?_); (case side1 => repeat (first | exact (Kd.C_below HR0.out HB.out) | (with_reducible refine Kd.C_alloc ?_ _) | (with_reducible refine Kd.C_drewN ?_ _) | (with_reducible refine Kd.C_drew ?_))); (case side2 => exact HC0.out); rintro e w38 ⟨v233, rfl, ho0, hb⟩; have n0_ := Aside0.mk (Kd.R_below (by (with_reducible repeat (first | apply Kd.R_alloc | apply Kd.R_drewN | apply Kd.R_drew)); exact HO231.out) hb); have n1_ := Aside0.mk (Kd.R_lower ho0 (below_size (by repeat (first | (with_reducible first | exact HB.out | apply below_alloc | apply pw_below_drewN | apply below_drew1) | exact HB.out)))); have n2_ := Aside0.mk (below_step (by repeat (first | (with_reducible first | exact HB.out | apply below_alloc | apply pw_below_drewN | apply below_drew1) | exact HB.out)) hb); clear HO231; clear HB; have HO231 := n0_; have HO234 := n1_; have HB := n2_; clear n0_ n1_ n2_; (try clear hb); (try clear hb2); (try clear hk); (try clear hi); (try clear ho0); obtain ⟨Ao39, co39, eo39⟩ := Kd.R_slice HO234.out; subst eo39) | (go_at_call 21; (with_reducible refine (impl_CleanLossless.calls k2 _ _ t232 t235 _ ?side1 ?side2 ?side3 A33.out).mono ?_); (case side1 => exact Glob.below hG_ (by repeat (first | (with_reducible first | exact HB.out | apply below_alloc | apply pw_below_drewN | apply below_drew1) | exact HB.out))); (case side2 => repeat (first | exact (Kd.R_reads' HO234.out).2.2 | (with_reducible refine Kd.C_alloc ?_ _) | (with_reducible refine Kd.C_drewN ?_ _) | (with_reducible refine Kd.C_drew ?_))); (case side3 => exact (Kd.R_reads' HO234.out).2.1); rintro e w40 ⟨v236, rfl, ho0, hb⟩; have n0_ := Aside0.mk (Kd.R_below (by (with_reducible repeat (first | apply Kd.R_alloc | apply Kd.R_drewN | apply Kd.R_drew)); exact HO231.out) hb); have n1_ := Aside0.mk (Kd.R_elder' (by (with_reducible repeat (first | apply Kd.R_alloc | apply Kd.R_drewN | apply Kd.R_drew)); exact HO234.out) (Kd.R_base ho0) hb); have n2_ := Aside0.mk (Kd.R_lower (Kd.R_new' ho0 (Kd.R_lt (by (with_reducible repeat (first | apply Kd.R_alloc | apply Kd.R_drewN | apply Kd.R_drew)); exact HO234.out))) (below_size (by repeat (first | (with_reducible first | exact HB.out | apply below_alloc | apply pw_below_drewN | apply below_drew1) | exact HB.out)))); have n3_ := Aside0.mk (below_step (by repeat (first | (with_reducible first | exact HB.out | apply below_alloc | apply pw_below_drewN | apply below_drew1) | exact HB.out)) hb); clear HO231; clear HO234; clear HB; have HO231 := n0_; have HO234 := n1_; have HO237 := n2_; have HB := n3_; clear n0_ n1_ n2_ n3_; (try clear hb); (try clear hb2); (try clear hk); (try clear hi); (try clear ho0); obtain ⟨Ao41, co41, eo41⟩ := Kd.R_slice HO237.out; subst eo41) | (go_at_call 20; (with_reducible refine (laws_cleanOf.calls k2 _ _ t235 t238 _ ?side1 ?side2 A34.out).mono ?_); (case side1 => repeat (first | exact (Kd.R_reads' HO237.out).2.2 | (with_reducible refine Kd.C_alloc ?_ _) | (with_reducible refine Kd.C_drewN ?_ _) | (with_reducible refine Kd.C_drew ?_))); (case side2 => exact (Kd.R_reads' HO237.out).2.1); rintro e w42 ⟨v239, rfl, ho0, hb⟩; have n0_ := Aside0.mk (Kd.R_elder' (by (with_reducible repeat (first | apply Kd.R_alloc | apply Kd.R_drewN | apply Kd.R_drew)); exact HO231.out) (Kd.R_base ho0) hb); have n1_ := Aside0.mk (Kd.R_below (by (with_reducible repeat (first | apply Kd.R_alloc | apply Kd.R_drewN | apply Kd.R_drew)); exact HO234.out) hb); have n2_ := Aside0.mk (Kd.R_below (by (with_reducible repeat (first | apply Kd.R_alloc | apply Kd.R_drewN | apply Kd.R_drew)); exact HO237.out) hb); have n3_ := Aside0.mk (Kd.R_lower (Kd.R_new' ho0 (Kd.R_lt (by (with_reducible repeat (first | apply Kd.R_alloc | apply Kd.R_drewN | apply Kd.R_drew)); exact HO231.out))) (below_size (by repeat (first | (with_reducible first | exact HB.out | apply below_alloc | apply pw_below_drewN | apply below_drew1) | exact HB.out)))); have n4_ := Aside0.mk (below_step (by repeat (first | (with_reducible first | exact HB.out | apply below_alloc | apply pw_below_drewN | apply below_drew1) | exact HB.out)) hb); clear HO231; clear HO234; clear HO237; clear HB; have HO231 := n0_; have HO234 := n1_; have HO237 := n2_; have HO240 := n3_; have HB := n4_; clear n0_ n1_ n2_ n3_ n4_; (try clear hb); (try clear hb2); (try clear hk); (try clear hi); (try clear ho0); obtain ⟨Ao43, co43, eo43⟩ := Kd.R_slice HO231.out; subst eo43; obtain ⟨Ao44, co44, eo44⟩ := Kd.R_slice HO240.out; subst eo44) | (go_at_call 19; (with_reducible refine (spec_CleanSame.calls k2 _ _ t229 _ _ t238 t241 _ ?side1 ?side2 ?side3 ?side4 A35.out).mono ?_); (case side1 => repeat (first | exact (Kd.R_reads' HO231.out).2.2 | (with_reducible refine Kd.C_alloc ?_ _) | (with_reducible refine Kd.C_drewN ?_ _) | (with_reducible refine Kd.C_drew ?_))); (case side2 => exact (Kd.R_reads' HO231.out).2.1); (case side3 => repeat (first | exact (Kd.R_reads' HO240.out).2.2 | (with_reducible refine Kd.C_alloc ?_ _) | (with_reducible refine Kd.C_drewN ?_ _) | (with_reducible refine Kd.C_drew ?_))); (case side4 => exact (Kd.R_reads' HO240.out).2.1); rintro e w' ⟨rfl, ⟨nd, rfl⟩⟩; (try first | exact ⟨rfl, _, World.drewN_drewN _ _ _⟩ | exact ⟨rfl, _, Eq.trans (World.drewN_drewN _ _ _) (congrArg (World.drewN _) (Nat.add_assoc _ _ _))⟩))))
        go_ret
        exact ⟨by first | rfl | (simp [errW_none, errW_some] <;> rfl) | (simp [*, errW_none, errW_some] <;> rfl), by repeat (first | (with_reducible first | exact HB.out | apply below_alloc | apply pw_below_drewN | apply below_drew1) | exact HB.out)⟩
/-! ### spec_CleanSide: function 38 -/
def spec_CleanSide.l0 : Nat → Int → ByteArray → List (S34) → Int → Int → Option (ByteArray)
 | 0, _, _, _, _, _ => none
 | k + 1, x1, x5, x8, x9, x10 => if x10 < x9 then (if 0 ≤ x10 then (if x10 < (x8.length : Int) then (if ((rd_T34 x8 x10).f0) = x1 then (spec_CleanSide.l0 k x1 x5 x8 x9 (wrap64 (x10 + 1))) else (if x5.size + ((rd_T34 x8 x10).f1).size ≤ 9223372036854775807 then (spec_CleanSide.l0 k x1 (x5 ++ ((rd_T34 x8 x10).f1)) x8 x9 (wrap64 (x10 + 1))) else (none))) else (none)) else (none)) else (some x5)
def spec_CleanSide.f (k : Nat) (l0 : List (S34)) (a1 : Int) : Option (ByteArray) := spec_CleanSide.l0 k a1 (⟨#[]⟩ : ByteArray) l0 (l0.length : Int) 0
theorem spec_CleanSide.mono_l : ∀ k, (∀ y0 y1 y2 y3 y4, LeO (spec_CleanSide.l0 k y0 y1 y2 y3 y4) (spec_CleanSide.l0 (k + 1) y0 y1 y2 y3 y4))
 | 0 => fun _ _ _ _ _ r h => by simp [spec_CleanSide.l0] at h
 | k + 1 => by
  have ih0 := spec_CleanSide.mono_l k
  ·intro y0 y1 y2 y3 y4
   unfold spec_CleanSide.l0
   repeat' first
   | (with_reducible exact ih0 _ _ _ _ _)
   | (with_reducible exact LeO.refl _)
   | (with_reducible exact LeO.none _)
   | (with_reducible refine LeO.ite ?_ ?_)
   | (with_reducible refine LeO.bind ?_ (fun _ => ?_))
   | exact ih0 _ _ _ _ _
   | exact LeO.none _
   | refine LeO.ite ?_ ?_
   | refine LeO.bind ?_ (fun _ => ?_)
theorem spec_CleanSide.mono : ∀ a0 a1 k, LeO (spec_CleanSide.f k a0 a1) (spec_CleanSide.f (k + 1) a0 a1) := by
 intro a0 a1 k
 have ih0 := spec_CleanSide.mono_l k
 unfold spec_CleanSide.f
 repeat' first
   | (with_reducible exact ih0 _ _ _ _ _)
   | (with_reducible exact LeO.refl _)
   | (with_reducible exact LeO.none _)
   | (with_reducible refine LeO.ite ?_ ?_)
   | (with_reducible refine LeO.bind ?_ (fun _ => ?_))
   | exact ih0 _ _ _ _ _
   | exact LeO.none _
   | refine LeO.ite ?_ ?_
   | refine LeO.bind ?_ (fun _ => ?_)
set_option maxHeartbeats 8000000 in
set_option maxRecDepth 100000 in
theorem spec_CleanSide.calls (k : Nat) (A0 : Option Addr) (c0 : Nat) (l0 : List (S34)) (a1 : Int) (r : ByteArray) (w : World) (hr0 : Kd.C k34 w A0 l0.length l0) (hc0 : l0.length ≤ c0) (h : spec_CleanSide.f k l0 a1 = some r) :
  Calls Tryd.prog 38 #[.slice A0 l0.length c0, .int .i64 a1] w fun e w' => e = .returned (.string r) ∧ Below w.heap.size w w' := by
 have hu34 := Tryd.underlying34
 have HR0 := Aside0.mk hr0
 have HC0 := Aside0.mk hc0
 clear hr0 hc0
 have HB := Aside0.mk (Below.refl w.heap.size w)
 have H : (spec_CleanSide.l0 k a1 (⟨#[]⟩ : ByteArray) l0 (l0.length : Int) 0) = some r := h
 clear h
 have H' := Aside0.mk H
 clear H
 go_enter Tryd.func38, Tryd.ntmps38
 go_wp2
 go_loopg [5, 10] k (fun kq v5 v10 w' => ∃ (x5_1 : ByteArray) (x10_1 : Int), v5 = .string x5_1 ∧ v10 = .int .i64 x10_1 ∧ Aside0 (spec_CleanSide.l0 kq a1 x5_1 l0 (l0.length : Int) x10_1 = some r) ∧ Aside0 (kq ≤ k) ∧ Aside0 (Below w.heap.size w w'))
 case atStart => exact ⟨((⟨#[]⟩ : ByteArray)), (0), (by first | rfl | (simp; done) | (simp [*]; done)), (by first | rfl | (simp; done) | (simp [*]; done)), H', ⟨Nat.le_refl _⟩, ⟨by repeat (first | (with_reducible first | exact HB.out | apply below_alloc | apply pw_below_drewN | apply below_drew1) | exact HB.out)⟩⟩
 case round =>
  clear H'
  try clear p2
  obtain ⟨x5_1, x10_1, rfl, rfl, HA, HK1, HB⟩ := hrel
  cases gk with
  | zero => exact absurd HA.out (by simp [spec_CleanSide.l0])
  | succ k1 =>
   have H := HA.out
   clear HA
   simp only [spec_CleanSide.l0] at H
   by_cases c3 : x10_1 < (l0.length : Int)
   case neg =>
    rw [if_neg c3] at H
    have c3b0 : decide (x10_1 < (l0.length : Int)) = false := decide_eq_false c3
    clear c3
    obtain rfl := Option.some.inj H
    go_wp2
    go_ret
    exact ⟨by first | rfl | (simp [errW_none, errW_some] <;> rfl) | (simp [*, errW_none, errW_some] <;> rfl), by repeat (first | (with_reducible first | exact HB.out | apply below_alloc | apply pw_below_drewN | apply below_drew1) | exact HB.out)⟩
   rw [if_pos c3] at H
   have c3b0 : decide (x10_1 < (l0.length : Int)) = true := decide_eq_true c3
   clear c3
   by_cases c4 : 0 ≤ x10_1
   case neg =>
    rw [if_neg c4] at H
    exact absurd H (by simp)
   rw [if_pos c4] at H
   have c4b0 : decide (0 ≤ x10_1) = true := decide_eq_true c4
   clear c4
   by_cases c5 : x10_1 < (l0.length : Int)
   case neg =>
    rw [if_neg c5] at H
    exact absurd H (by simp)
   rw [if_pos c5] at H
   have c5b0 : decide (x10_1 < (l0.length : Int)) = true := decide_eq_true c5
   clear c5
   by_cases c6 : ((rd_T34 l0 x10_1).f0) = a1
   ·rw [if_pos c6] at H
    have c6b0 : (((rd_T34 l0 x10_1).f0) == a1) = true := beq_iff_eq.mpr c6
    have c6b1 : (((rd_T34 l0 x10_1).f0) != a1) = false := bne_eq_false_iff_eq.mpr c6
    clear c6
    have H' := Aside0.mk H
    clear H
    have p242 : 0 ≤ (x10_1 : Int) := of_decide_eq_true (by first | (with_reducible assumption) | assumption)
    have q242 : x10_1 < (l0.length : Int) := of_decide_eq_true (by first | (with_reducible assumption) | assumption)
    obtain ⟨ad242, e242, hx242_0, hx242_1⟩ := at_T34 HR0.out x10_1 p242 q242
    cases e242
    replace hx242_0 := (HB.out.cell (World.block_lt_of_cell? w _ hx242_0)).trans hx242_0
    replace hx242_1 := (HB.out.cell (World.block_lt_of_cell? w _ hx242_1)).trans hx242_1
    replace p242 := eq_true p242
    replace q242 := eq_true q242
    go_wp2_with (first | ((with_reducible refine gate_dst (N := 7) rfl ?_); refine box_event ?hg (N := 7) ?hd (cs := #[.int .i64 0, .string (⟨#[]⟩ : ByteArray)]) (t := 34) ?hr ?_; (case hd => rfl); (case hg => rfl); (case hr => first | (go_simp; done) | (go_simp; rfl)); intro gb243 hg w7 hbox hb; have n0_ := Aside0.mk (below_step (by repeat (first | (with_reducible first | exact HB.out | apply below_alloc | apply pw_below_drewN | apply below_drew1) | exact HB.out)) hb); have n1_ := Aside0.mk (hbox); have n2_ := Aside0.mk ((by rw [hg]; exact (below_size (by repeat (first | (with_reducible first | exact HB.out | apply below_alloc | apply pw_below_drewN | apply below_drew1) | exact HB.out))) : w.heap.size ≤ gb243)); have n3_ := Aside0.mk ((by rw [hg]; exact (below_size (by repeat (first | (with_reducible first | exact HB.out | apply below_alloc | apply pw_below_drewN | apply below_drew1) | exact HB.out))) : w.heap.size ≤ gb243)); clear HB; have HB := n0_; have BK243 := n1_; have GW243 := n2_; have GE243 := n3_; clear n0_ n1_ n2_ n3_; clear hb hbox hg; have hcz8_0 : w7.cell? ⟨gb243, 0, none⟩ = some (.int .i64 0) := (blk_cell BK243.out 0).trans rfl; have hcz8_1 : w7.cell? ⟨gb243, 1, none⟩ = some (.string (⟨#[]⟩ : ByteArray)) := (blk_cell BK243.out 1).trans rfl; have hfz8_0 := blk_frozen BK243.out 0; have hfz8_1 := blk_frozen BK243.out 1))
    go_roundg k1
    case measure => have := HK1.out; omega
    case rel => exact ⟨(x5_1), (wrap64 (x10_1 + 1)), (by first | rfl | (simp; done) | (simp [*]; done)), (by first | rfl | (simp; done) | (simp [*]; done)), H', ⟨by have := HK1.out; omega⟩, ⟨by repeat (first | (with_reducible first | exact HB.out | apply below_alloc | apply pw_below_drewN | apply below_drew1 | refine below_set ?_ GE243.out) | exact HB.out)⟩⟩
   rw [if_neg c6] at H
   have c6b0 : (((rd_T34 l0 x10_1).f0) == a1) = false := beq_eq_false_iff_ne.mpr c6
   have c6b1 : (((rd_T34 l0 x10_1).f0) != a1) = true := bne_iff_ne.mpr c6
   by_cases c9 : x5_1.size + ((rd_T34 l0 x10_1).f1).size ≤ 9223372036854775807
   case neg =>
    rw [if_neg c9] at H
    exact absurd H (by simp)
   rw [if_pos c9] at H
   have c9b0 := eq_true c9
   have c9b1 : decide (x5_1.size + ((rd_T34 l0 x10_1).f1).size ≤ 9223372036854775807) = true := decide_eq_true c9
   try have c9b2 : (9223372036854775807 < x5_1.size + ((rd_T34 l0 x10_1).f1).size) = False := eq_false (Nat.not_lt.2 c9)
   (try (have c9b4 := c9b2; simp only [ByteArray.size_append] at c9b4))
   have H' := Aside0.mk H
   clear H
   have p242 : 0 ≤ (x10_1 : Int) := of_decide_eq_true (by first | (with_reducible assumption) | assumption)
   have q242 : x10_1 < (l0.length : Int) := of_decide_eq_true (by first | (with_reducible assumption) | assumption)
   obtain ⟨ad242, e242, hx242_0, hx242_1⟩ := at_T34 HR0.out x10_1 p242 q242
   cases e242
   replace hx242_0 := (HB.out.cell (World.block_lt_of_cell? w _ hx242_0)).trans hx242_0
   replace hx242_1 := (HB.out.cell (World.block_lt_of_cell? w _ hx242_1)).trans hx242_1
   replace p242 := eq_true p242
   replace q242 := eq_true q242
   go_wp2_with (first | ((with_reducible refine gate_dst (N := 7) rfl ?_); refine box_event ?hg (N := 7) ?hd (cs := #[.int .i64 0, .string (⟨#[]⟩ : ByteArray)]) (t := 34) ?hr ?_; (case hd => rfl); (case hg => rfl); (case hr => first | (go_simp; done) | (go_simp; rfl)); intro gb243 hg w10 hbox hb; have n0_ := Aside0.mk (below_step (by repeat (first | (with_reducible first | exact HB.out | apply below_alloc | apply pw_below_drewN | apply below_drew1) | exact HB.out)) hb); have n1_ := Aside0.mk (hbox); have n2_ := Aside0.mk ((by rw [hg]; exact (below_size (by repeat (first | (with_reducible first | exact HB.out | apply below_alloc | apply pw_below_drewN | apply below_drew1) | exact HB.out))) : w.heap.size ≤ gb243)); have n3_ := Aside0.mk ((by rw [hg]; exact (below_size (by repeat (first | (with_reducible first | exact HB.out | apply below_alloc | apply pw_below_drewN | apply below_drew1) | exact HB.out))) : w.heap.size ≤ gb243)); clear HB; have HB := n0_; have BK243 := n1_; have GW243 := n2_; have GE243 := n3_; clear n0_ n1_ n2_ n3_; clear hb hbox hg; have hcz11_0 : w10.cell? ⟨gb243, 0, none⟩ = some (.int .i64 0) := (blk_cell BK243.out 0).trans rfl; have hcz11_1 : w10.cell? ⟨gb243, 1, none⟩ = some (.string (⟨#[]⟩ : ByteArray)) := (blk_cell BK243.out 1).trans rfl; have hfz11_0 := blk_frozen BK243.out 0; have hfz11_1 := blk_frozen BK243.out 1))
   go_roundg k1
   case measure => have := HK1.out; omega
   case rel => exact ⟨(x5_1 ++ ((rd_T34 l0 x10_1).f1)), (wrap64 (x10_1 + 1)), (by first | rfl | (simp; done) | (simp [*]; done)), (by first | rfl | (simp; done) | (simp [*]; done)), H', ⟨by have := HK1.out; omega⟩, ⟨by repeat (first | (with_reducible first | exact HB.out | apply below_alloc | apply pw_below_drewN | apply below_drew1 | refine below_set ?_ GE243.out) | exact HB.out)⟩⟩
/-! ### spec_CleanKept: function 23 -/
def spec_CleanKept.f (k : Nat) (l0 : List (S34)) (l1 : List (S34)) : Option (Bool) := (spec_CleanSide.f k l0 1).bind fun t244 => ((spec_CleanSide.f k l1 1).bind fun t245 => (if t244.toList = t245.toList then ((spec_CleanSide.f k l0 (-1)).bind fun t246 => ((spec_CleanSide.f k l1 (-1)).bind fun t247 => (some (t246.toList == t247.toList)))) else (some false)))
theorem spec_CleanKept.mono : ∀ a0 a1 k, LeO (spec_CleanKept.f k a0 a1) (spec_CleanKept.f (k + 1) a0 a1) := by
 intro a0 a1 k
 unfold spec_CleanKept.f
 repeat' first
   | (with_reducible exact spec_CleanSide.mono _ _ _)
   | (with_reducible exact LeO.refl _)
   | (with_reducible exact LeO.none _)
   | (with_reducible refine LeO.ite ?_ ?_)
   | (with_reducible refine LeO.bind ?_ (fun _ => ?_))
   | exact spec_CleanSide.mono _ _ _
   | exact LeO.none _
   | refine LeO.ite ?_ ?_
   | refine LeO.bind ?_ (fun _ => ?_)
set_option maxHeartbeats 8000000 in
set_option maxRecDepth 100000 in
theorem spec_CleanKept.calls (k : Nat) (A0 : Option Addr) (c0 : Nat) (l0 : List (S34)) (A1 : Option Addr) (c1 : Nat) (l1 : List (S34)) (r : Bool) (w : World) (hr0 : Kd.C k34 w A0 l0.length l0) (hc0 : l0.length ≤ c0) (hr1 : Kd.C k34 w A1 l1.length l1) (hc1 : l1.length ≤ c1) (h : spec_CleanKept.f k l0 l1 = some r) :
  Calls Tryd.prog 23 #[.slice A0 l0.length c0, .slice A1 l1.length c1] w fun e w' => e = .returned (.bool r) ∧ Below w.heap.size w w' := by
 have HR0 := Aside0.mk hr0
 have HC0 := Aside0.mk hc0
 clear hr0 hc0
 have HR1 := Aside0.mk hr1
 have HC1 := Aside0.mk hc1
 clear hr1 hc1
 have HB := Aside0.mk (Below.refl w.heap.size w)
 have H : ((spec_CleanSide.f k l0 1).bind fun t244 => ((spec_CleanSide.f k l1 1).bind fun t245 => (if t244.toList = t245.toList then ((spec_CleanSide.f k l0 (-1)).bind fun t246 => ((spec_CleanSide.f k l1 (-1)).bind fun t247 => (some (t246.toList == t247.toList)))) else (some false)))) = some r := h
 clear h
 replace H := Option.bind_eq_some_iff.mp H
 obtain ⟨t244, A30, H⟩ := H
 replace H : ((spec_CleanSide.f k l1 1).bind fun t245 => (if t244.toList = t245.toList then ((spec_CleanSide.f k l0 (-1)).bind fun t246 => ((spec_CleanSide.f k l1 (-1)).bind fun t247 => (some (t246.toList == t247.toList)))) else (some false))) = some r := H
 have A3 := Aside0.mk A30
 clear A30
 replace H := Option.bind_eq_some_iff.mp H
 obtain ⟨t245, A40, H⟩ := H
 replace H : (if t244.toList = t245.toList then ((spec_CleanSide.f k l0 (-1)).bind fun t246 => ((spec_CleanSide.f k l1 (-1)).bind fun t247 => (some (t246.toList == t247.toList)))) else (some false)) = some r := H
 have A4 := Aside0.mk A40
 clear A40
 by_cases c5 : t244.toList = t245.toList
 case neg =>
  rw [if_neg c5] at H
  have c5b0 : (t244.toList == t245.toList) = false := beq_eq_false_iff_ne.mpr c5
  have c5b1 : (t244.toList != t245.toList) = true := bne_iff_ne.mpr c5
  obtain rfl := Option.some.inj H
  go_enter Tryd.func23, Tryd.ntmps23
  go_wp2_with (first | ((with_reducible refine gate_callee (f := 38) rfl ?_); refine goesL_ (some 6) rfl rfl Tryd.func38 (by kernel_rfl) rfl #[.slice A0 l0.length c0, .int .i64 1] rfl (by (try simp only [List.map_toArray, List.map_cons, List.map_nil]); first | done | rfl | (simp only [List.length_drop, List.length_take]; rfl)) ?_; (with_reducible refine (spec_CleanSide.calls k _ _ l0 1 t244 _ ?side1 ?side2 A3.out).mono ?_); (case side1 => repeat (first | exact HR0.out | (with_reducible refine Kd.C_alloc ?_ _) | (with_reducible refine Kd.C_drewN ?_ _) | (with_reducible refine Kd.C_drew ?_))); (case side2 => exact HC0.out); rintro e w12 ⟨rfl, hb⟩; refine ⟨_, rfl, ?_⟩; have n0_ := Aside0.mk (below_step (by repeat (first | (with_reducible first | exact HB.out | apply below_alloc | apply pw_below_drewN | apply below_drew1) | exact HB.out)) hb); clear HB; have HB := n0_; clear n0_; (try clear hb); (try clear hb2); (try clear hk); (try clear hi)) | ((with_reducible refine gate_callee (f := 38) rfl ?_); refine goesL_ (some 8) rfl rfl Tryd.func38 (by kernel_rfl) rfl #[.slice A1 l1.length c1, .int .i64 1] rfl (by (try simp only [List.map_toArray, List.map_cons, List.map_nil]); first | done | rfl | (simp only [List.length_drop, List.length_take]; rfl)) ?_; (with_reducible refine (spec_CleanSide.calls k _ _ l1 1 t245 _ ?side1 ?side2 A4.out).mono ?_); (case side1 => repeat (first | exact (Kd.C_below HR1.out HB.out) | (with_reducible refine Kd.C_alloc ?_ _) | (with_reducible refine Kd.C_drewN ?_ _) | (with_reducible refine Kd.C_drew ?_))); (case side2 => exact HC1.out); rintro e w13 ⟨rfl, hb⟩; refine ⟨_, rfl, ?_⟩; have n0_ := Aside0.mk (below_step (by repeat (first | (with_reducible first | exact HB.out | apply below_alloc | apply pw_below_drewN | apply below_drew1) | exact HB.out)) hb); clear HB; have HB := n0_; clear n0_; (try clear hb); (try clear hb2); (try clear hk); (try clear hi)))
  go_ret
  exact ⟨by first | rfl | (simp [errW_none, errW_some] <;> rfl) | (simp [*, errW_none, errW_some] <;> rfl), by repeat (first | (with_reducible first | exact HB.out | apply below_alloc | apply pw_below_drewN | apply below_drew1) | exact HB.out)⟩
 rw [if_pos c5] at H
 have c5b0 : (t244.toList == t245.toList) = true := beq_iff_eq.mpr c5
 have c5b1 : (t244.toList != t245.toList) = false := bne_eq_false_iff_eq.mpr c5
 clear c5
 replace H := Option.bind_eq_some_iff.mp H
 obtain ⟨t246, A60, H⟩ := H
 replace H : ((spec_CleanSide.f k l1 (-1)).bind fun t247 => (some (t246.toList == t247.toList))) = some r := H
 have A6 := Aside0.mk A60
 clear A60
 replace H := Option.bind_eq_some_iff.mp H
 obtain ⟨t247, A70, H⟩ := H
 replace H : (some (t246.toList == t247.toList)) = some r := H
 have A7 := Aside0.mk A70
 clear A70
 obtain rfl := Option.some.inj H
 go_enter Tryd.func23, Tryd.ntmps23
 go_wp2_with (first | ((with_reducible refine gate_callee (f := 38) rfl ?_); refine goesL_ (some 6) rfl rfl Tryd.func38 (by kernel_rfl) rfl #[.slice A0 l0.length c0, .int .i64 1] rfl (by (try simp only [List.map_toArray, List.map_cons, List.map_nil]); first | done | rfl | (simp only [List.length_drop, List.length_take]; rfl)) ?_; (with_reducible refine (spec_CleanSide.calls k _ _ l0 1 t244 _ ?side1 ?side2 A3.out).mono ?_); (case side1 => repeat (first | exact HR0.out | (with_reducible refine Kd.C_alloc ?_ _) | (with_reducible refine Kd.C_drewN ?_ _) | (with_reducible refine Kd.C_drew ?_))); (case side2 => exact HC0.out); rintro e w8 ⟨rfl, hb⟩; refine ⟨_, rfl, ?_⟩; have n0_ := Aside0.mk (below_step (by repeat (first | (with_reducible first | exact HB.out | apply below_alloc | apply pw_below_drewN | apply below_drew1) | exact HB.out)) hb); clear HB; have HB := n0_; clear n0_; (try clear hb); (try clear hb2); (try clear hk); (try clear hi)) | ((with_reducible refine gate_callee (f := 38) rfl ?_); refine goesL_ (some 8) rfl rfl Tryd.func38 (by kernel_rfl) rfl #[.slice A1 l1.length c1, .int .i64 1] rfl (by (try simp only [List.map_toArray, List.map_cons, List.map_nil]); first | done | rfl | (simp only [List.length_drop, List.length_take]; rfl)) ?_; (with_reducible refine (spec_CleanSide.calls k _ _ l1 1 t245 _ ?side1 ?side2 A4.out).mono ?_); (case side1 => repeat (first | exact (Kd.C_below HR1.out HB.out) | (with_reducible refine Kd.C_alloc ?_ _) | (with_reducible refine Kd.C_drewN ?_ _) | (with_reducible refine Kd.C_drew ?_))); (case side2 => exact HC1.out); rintro e w9 ⟨rfl, hb⟩; refine ⟨_, rfl, ?_⟩; have n0_ := Aside0.mk (below_step (by repeat (first | (with_reducible first | exact HB.out | apply below_alloc | apply pw_below_drewN | apply below_drew1) | exact HB.out)) hb); clear HB; have HB := n0_; clear n0_; (try clear hb); (try clear hb2); (try clear hk); (try clear hi)) | (go_at_call 38; (with_reducible refine (spec_CleanSide.calls k _ _ l0 (-1) t246 _ ?side1 ?side2 A6.out).mono ?_); (case side1 => repeat (first | exact (Kd.C_below HR0.out HB.out) | (with_reducible refine Kd.C_alloc ?_ _) | (with_reducible refine Kd.C_drewN ?_ _) | (with_reducible refine Kd.C_drew ?_))); (case side2 => exact HC0.out); rintro e w10 ⟨rfl, hb⟩; have n0_ := Aside0.mk (below_step (by repeat (first | (with_reducible first | exact HB.out | apply below_alloc | apply pw_below_drewN | apply below_drew1) | exact HB.out)) hb); clear HB; have HB := n0_; clear n0_; (try clear hb); (try clear hb2); (try clear hk); (try clear hi)) | (go_at_call 38; (with_reducible refine (spec_CleanSide.calls k _ _ l1 (-1) t247 _ ?side1 ?side2 A7.out).mono ?_); (case side1 => repeat (first | exact (Kd.C_below HR1.out HB.out) | (with_reducible refine Kd.C_alloc ?_ _) | (with_reducible refine Kd.C_drewN ?_ _) | (with_reducible refine Kd.C_drew ?_))); (case side2 => exact HC1.out); rintro e w11 ⟨rfl, hb⟩; have n0_ := Aside0.mk (below_step (by repeat (first | (with_reducible first | exact HB.out | apply below_alloc | apply pw_below_drewN | apply below_drew1) | exact HB.out)) hb); clear HB; have HB := n0_; clear n0_; (try clear hb); (try clear hb2); (try clear hk); (try clear hi)))
 go_ret
 exact ⟨by first | rfl | (simp [errW_none, errW_some] <;> rfl) | (simp [*, errW_none, errW_some] <;> rfl), by repeat (first | (with_reducible first | exact HB.out | apply below_alloc | apply pw_below_drewN | apply below_drew1) | exact HB.out)⟩
end Go.Proofs.YtaabfadjemmibaaDoor.P