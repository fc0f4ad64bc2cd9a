import Derived.Test.YtfglahmbnnkijaaRows
import Derived.Test.YtfglahmbnnkijaaEvOk
import Derived.Test.YtfglahmbnnkijaaPureFnUdiffMerge
import Derived.WalkKit
import Derived.ProofKit
import Derived.OpenShut
import Derived.ShutString
import Derived.ChangeOld
import Derived.Below
import Derived.SizedLaws
import Derived.Deep.DeepHandedRow
import Derived.Lib.LaidTab
import Derived.Lib.LaidIn
import Derived.Lib.LaidU8T
import Derived.SevenTiedAt
/- The statement FnUdiffMerge: from its pure form to the given row. -/
namespace Go.Proofs.Ytfglahmbnnkijaa.fnUdiffMerge
open Go.ChangeShapes Go.WideShapes Go.ChangeAt Go.RowKit Go.Ev Go.Proofs.Ytfglahmbnnkijaa.E
open Go.ChangeMaps (open_string shut_string)
set_option linter.unusedVariables false
set_option linter.unusedSimpArgs false
theorem own : ownKnob Try.prog.godebug = none := by kernel_rfl
theorem laidOut : laidOutB Try.prog = true := by kernel_rfl
theorem elem36 {H : Type} {enc : TypeId × Value → H} {w : World} {base : Nat} {spare : Nat → Bool} {held : Bool} : ∀ n cs x, DataW.trod enc Try.prog w base spare held n 36 cs = some x → ∃ y : Ty.den TS1, cs = Ty.cells TS1 y ∧ (((Lit.int .i64 y.1).wf = true) ∧ ((Lit.int .i64 y.2.1).wf = true) ∧ (y.2.2.size ≤ 9223372036854775807)) := by
  intro n cs x h
  obtain ⟨xs, m, _, _, hlen, hl, hf⟩ := DataW.trod_struct Try.underlying36 h
  rw [show Try.prog.cellsOf 36 = 3 from by kernel_rfl] at hlen
  obtain ⟨u0, u1, u2, rfl⟩ := len3 hlen
  obtain ⟨x0, x1, x2, rfl⟩ := len3 (show xs.length = 3 from hl)
  have h0 : DataW.trod enc Try.prog w base spare held m 2 ((List.drop 0 [u0, u1, u2]).take (Try.prog.cellsOf 2)) = [x0, x1, x2][0]? := hf 0 _ rfl
  rw [show Try.prog.cellsOf 2 = 1 from by kernel_rfl] at h0
  simp only [List.drop, List.take, List.getElem?_cons_zero, List.getElem?_cons_succ] at h0
  have h1 : DataW.trod enc Try.prog w base spare held m 2 ((List.drop 1 [u0, u1, u2]).take (Try.prog.cellsOf 2)) = [x0, x1, x2][1]? := hf 1 _ rfl
  rw [show Try.prog.cellsOf 2 = 1 from by kernel_rfl] at h1
  simp only [List.drop, List.take, List.getElem?_cons_zero, List.getElem?_cons_succ] at h1
  have h2 : DataW.trod enc Try.prog w base spare held m 9 ((List.drop 2 [u0, u1, u2]).take (Try.prog.cellsOf 9)) = [x0, x1, x2][2]? := hf 2 _ rfl
  rw [show Try.prog.cellsOf 9 = 1 from by kernel_rfl] at h2
  simp only [List.drop, List.take, List.getElem?_cons_zero, List.getElem?_cons_succ] at h2
  obtain ⟨a0, e0, _, w0⟩ := DataW.trod_int Try.underlying2 h0
  simp only [List.cons.injEq, and_true] at e0
  subst e0
  obtain ⟨a1, e1, _, w1⟩ := DataW.trod_int Try.underlying2 h1
  simp only [List.cons.injEq, and_true] at e1
  subst e1
  obtain ⟨a2, e2, _, w2⟩ := DataW.trod_string Try.underlying9 h2
  simp only [List.cons.injEq, and_true] at e2
  subst e2
  exact ⟨(a0, a1, a2), rfl, w0, w1, (by simpa [maxLen] using w2)⟩
set_option maxRecDepth 100000 in
theorem contract (H : Type) (enc : TypeId × Value → H) (W : World) (base : Nat) (args : Array Value) (ds gs : List (DataW H)) (before : List MemPlace)
    (hval : ∀ (j : Nat) t v, Try.f10.params[j]? = some t → args[j]? = some v → Value.okWide Try.prog W .any base t v)
    (hW : DataW.Whole enc Try.prog Try.f10.params.toList Rows.fnUdiffMergeSpec.vars false W args.toList ds gs before) :
    Calls Try.prog 10 args W fun e W' => ∃ v, e = .returned v ∧ Rows.fnUdiffMergeSpec.post enc Try.prog Try.f10 false true false false W args v W' := by
  have hW' := hW
  obtain ⟨p, q, hA0, hV, rfl, hfz, hnd⟩ := hW
  have hA : DataW.TrodAll enc Try.prog W 0 (fun _ => true) true Try.f10.params.toList args.toList ds p := hA0
  rw [Try.params10] at hA hval
  obtain ⟨v0, vs0, d0, ds0, p0, q0, hargs, rfl, rfl, h0, r0⟩ := trodAll_cons hA
  obtain ⟨v1, vs1, d1, ds1, p1, q1, rfl, rfl, rfl, h1, r1⟩ := trodAll_cons r0
  obtain ⟨rfl, rfl, rfl⟩ := trodAll_nil r1
  obtain rfl : args = #[v0, v1] := by cases args; simp_all
  obtain ⟨rfl, rfl⟩ := trodVars_none hV
  obtain ⟨A0, len0, cap0, rfl⟩ := okWide_slice Try.underlying26 (hval 0 26 v0 rfl rfl)
  have k0 := h0
  have lt0 : ∀ x ∈ p0, x.block < W.heap.size := by obtain ⟨m, hm⟩ := k0; exact DataW.trod_lt m _ _ _ hm
  obtain ⟨fuel0, hf0⟩ := h0
  obtain ⟨A0', len0', cap0', l0, hcs0, hll0, hcm0, hC0, hG0⟩ := open_ty TS1 (fun y => ((Lit.int .i64 y.1).wf = true) ∧ ((Lit.int .i64 y.2.1).wf = true) ∧ (y.2.2.size ≤ 9223372036854775807)) Try.underlying26 (by kernel_rfl) elem36 hf0
  simp only [Value.cells, List.cons.injEq, Value.slice.injEq, and_true] at hcs0
  obtain ⟨rfl, rfl, rfl⟩ := hcs0
  subst hll0
  obtain ⟨A1, len1, cap1, rfl⟩ := okWide_slice Try.underlying26 (hval 1 26 v1 rfl rfl)
  have k1 := h1
  have lt1 : ∀ x ∈ p1, x.block < W.heap.size := by obtain ⟨m, hm⟩ := k1; exact DataW.trod_lt m _ _ _ hm
  obtain ⟨fuel1, hf1⟩ := h1
  obtain ⟨A1', len1', cap1', l1, hcs1, hll1, hcm1, hC1, hG1⟩ := open_ty TS1 (fun y => ((Lit.int .i64 y.1).wf = true) ∧ ((Lit.int .i64 y.2.1).wf = true) ∧ (y.2.2.size ≤ 9223372036854775807)) Try.underlying26 (by kernel_rfl) elem36 hf1
  simp only [Value.cells, List.cons.injEq, Value.slice.injEq, and_true] at hcs1
  obtain ⟨rfl, rfl, rfl⟩ := hcs1
  subst hll1
  clear hA0 hval
  obtain ⟨k, hk⟩ := Pure.FnUdiffMerge l0 l1 ⟨(by simpa [maxLen] using hcm0), hG0⟩ ⟨(by simpa [maxLen] using hcm1), hG1⟩
  have hcall := ((callF_ok W (ext_ok W) k 10) _ true hk).2 HEnv.zero W (fun _ => False) [Value.slice A0 _ cap0, Value.slice A1 _ cap1] (Below.refl _ _) (fun g hg => hg.elim) ⟨⟨hC0, fun _ g _ hg => hg⟩, ⟨⟨hC1, fun _ g _ hg => hg⟩, trivial⟩⟩ List.Pairwise.nil (HpOk.empty W rfl) (fun n h => absurd rfl h)
  refine hcall.mono fun e W' ⟨Rs, _, he, hR, _, hP, _⟩ => ?_
  have hV : Rs = [Value.bool true] := by
    match Rs, hR with
    | [V], hR => exact congrArg (fun v => [v]) hR
  subst hV
  have bel : Below W.heap.size W W' := hP.below (fun _ h => h.elim) (Nat.le_refl _)
  subst he
  exact ⟨_, rfl, _, _, _, [], _, [], hW', trodAll_mk1 (shut_bool Try.underlying4 _), (trodAll_cons_mk (Below.trod laidOut (by kernel_rfl) (of_decide_eq_true (by kernel_rfl)) k0 bel lt0) (trodAll_cons_mk (Below.trod laidOut (by kernel_rfl) (of_decide_eq_true (by kernel_rfl)) k1 bel lt1) trodAll_mk0)), rfl, bel.frame _, fun h => by cases h⟩
set_option maxRecDepth 100000 in
theorem lifted (os : Os) (started : os.Started) (H : Type) (enc : TypeId × Value → H) :
    ReturnsInHanded {} Try.checked os 10 .any (Rows.fnUdiffMergeSpec.pre6 enc Try.prog Try.f10 Rows.fnUdiffMergeRow.domain false) (Rows.fnUdiffMergeSpec.post enc Try.prog Try.f10 false true false false) := by
  refine returnsInHanded_of_change_sized (C := Try.checked) own started (by kernel_rfl) Try.func10
    (ChangeSpec.witness6 (enc := enc) (C := Try.checked) false ⟨#[], #[.slice none 0 0, .slice none 0 0], []⟩ 8 (by kernel_rfl) (by kernel_rfl) (by kernel_rfl) (by kernel_rfl)) ?_
  intro W base args ds gs before hval0 hW hcnd hsz0 _
  exact contract H enc W base args ds gs before hval0 hW
theorem said : Rows.FnUdiffMergeSaid :=
  OpenClaim.holds_of_wide 10 Try.f10 rfl rfl rfl rfl rfl rfl rfl ⟨rfl, rfl, rfl, rfl, rfl⟩ rfl rfl rfl rfl rfl (by kernel_rfl) Try.func10 (by kernel_rfl)
    (of_decide_eq_true (by kernel_rfl)) (by unfold Func.isWrapper; first | (rw [if_pos (by decide +kernel)]; kernel_rfl) | (rw [if_neg (by decide +kernel)]; exact ⟨rfl, rfl⟩))
    (fun os started H enc _ => lifted os started H enc)
end Go.Proofs.Ytfglahmbnnkijaa.fnUdiffMerge
namespace Go.Proofs.Ytfglahmbnnkijaa
/-- The statement, under a short name, for the claim. -/
theorem fnUdiffMerge_holds : Rows.FnUdiffMergeSaid := fnUdiffMerge.said
#print axioms fnUdiffMerge_holds
end Go.Proofs.Ytfglahmbnnkijaa
