import Derived.Test.YtfglahmbnnkijaaRows
import Derived.Test.YtfglahmbnnkijaaEvOk
import Derived.Test.YtfglahmbnnkijaaPureFnUdiffLines
import Derived.WalkKit
import Derived.ProofKit
import Derived.OpenShut
import Derived.ShutString
import Derived.ChangeOld
import Derived.Below
import Derived.SizedLaws
import Derived.Deep.DeepHandedRow
import Derived.Lib.LaidTab
import Derived.Lib.LaidIn
import Derived.Lib.LaidU8T
import Derived.SevenTiedAt
/- The statement FnUdiffLines: from its pure form to the given row. -/
namespace Go.Proofs.Ytfglahmbnnkijaa.fnUdiffLines
open Go.ChangeShapes Go.WideShapes Go.ChangeAt Go.RowKit Go.Ev Go.Proofs.Ytfglahmbnnkijaa.E
open Go.ChangeMaps (open_string shut_string)
set_option linter.unusedVariables false
set_option linter.unusedSimpArgs false
theorem own : ownKnob Try.prog.godebug = none := by kernel_rfl
set_option maxRecDepth 100000 in
theorem contract (H : Type) (enc : TypeId × Value → H) (W : World) (base : Nat) (args : Array Value) (ds gs : List (DataW H)) (before : List MemPlace)
    (hval : ∀ (j : Nat) t v, Try.f9.params[j]? = some t → args[j]? = some v → Value.okWide Try.prog W .any base t v)
    (hW : DataW.Whole enc Try.prog Try.f9.params.toList Rows.fnUdiffLinesSpec.vars false W args.toList ds gs before) :
    Calls Try.prog 9 args W fun e W' => ∃ v, e = .returned v ∧ Rows.fnUdiffLinesSpec.post enc Try.prog Try.f9 false true false false W args v W' := by
  have hW' := hW
  obtain ⟨p, q, hA0, hV, rfl, hfz, hnd⟩ := hW
  have hA : DataW.TrodAll enc Try.prog W 0 (fun _ => true) true Try.f9.params.toList args.toList ds p := hA0
  rw [Try.params9] at hA hval
  obtain ⟨v0, vs0, d0, ds0, p0, q0, hargs, rfl, rfl, h0, r0⟩ := trodAll_cons hA
  obtain ⟨v1, vs1, d1, ds1, p1, q1, rfl, rfl, rfl, h1, r1⟩ := trodAll_cons r0
  obtain ⟨rfl, rfl, rfl⟩ := trodAll_nil r1
  obtain rfl : args = #[v0, v1] := by cases args; simp_all
  obtain ⟨rfl, rfl⟩ := trodVars_none hV
  obtain ⟨a0, rfl, rfl, rfl, y0⟩ := open_string Try.underlying9 (hval 0 9 v0 rfl rfl) h0
  obtain ⟨a1, rfl, rfl, rfl, y1⟩ := open_string Try.underlying9 (hval 1 9 v1 rfl rfl) h1
  clear hA0 hval
  obtain ⟨k, hk⟩ := Pure.FnUdiffLines a0 a1 (by simpa [maxLen] using y0) (by simpa [maxLen] using y1)
  have hcall := ((callF_ok W (ext_ok W) k 9) _ true hk).2 HEnv.zero W (fun _ => False) [Value.string a0, Value.string a1] (Below.refl _ _) (fun g hg => hg.elim) ⟨rfl, ⟨rfl, trivial⟩⟩ List.Pairwise.nil (HpOk.empty W rfl) (fun n h => absurd rfl h)
  refine hcall.mono fun e W' ⟨Rs, _, he, hR, _, hP, _⟩ => ?_
  have hV : Rs = [Value.bool true] := by
    match Rs, hR with
    | [V], hR => exact congrArg (fun v => [v]) hR
  subst hV
  have bel : Below W.heap.size W W' := hP.below (fun _ h => h.elim) (Nat.le_refl _)
  subst he
  exact ⟨_, rfl, _, _, _, [], _, [], hW', trodAll_mk1 (shut_bool Try.underlying4 _), (trodAll_cons_mk (shut_string Try.underlying9 y0) (trodAll_cons_mk (shut_string Try.underlying9 y1) trodAll_mk0)), rfl, bel.frame _, fun h => by cases h⟩
set_option maxRecDepth 100000 in
theorem lifted (os : Os) (started : os.Started) (H : Type) (enc : TypeId × Value → H) :
    ReturnsInHanded {} Try.checked os 9 .any (Rows.fnUdiffLinesSpec.pre6 enc Try.prog Try.f9 Rows.fnUdiffLinesRow.domain false) (Rows.fnUdiffLinesSpec.post enc Try.prog Try.f9 false true false false) := by
  refine returnsInHanded_of_change_sized (C := Try.checked) own started (by kernel_rfl) Try.func9
    (ChangeSpec.witness6 (enc := enc) (C := Try.checked) false ⟨#[], #[.string ⟨#[]⟩, .string ⟨#[]⟩], []⟩ 8 (by kernel_rfl) (by kernel_rfl) (by kernel_rfl) (by kernel_rfl)) ?_
  intro W base args ds gs before hval0 hW hcnd hsz0 _
  exact contract H enc W base args ds gs before hval0 hW
theorem said : Rows.FnUdiffLinesSaid :=
  OpenClaim.holds_of_wide 9 Try.f9 rfl rfl rfl rfl rfl rfl rfl ⟨rfl, rfl, rfl, rfl, rfl⟩ rfl rfl rfl rfl rfl (by kernel_rfl) Try.func9 (by kernel_rfl)
    (of_decide_eq_true (by kernel_rfl)) (by unfold Func.isWrapper; first | (rw [if_pos (by decide +kernel)]; kernel_rfl) | (rw [if_neg (by decide +kernel)]; exact ⟨rfl, rfl⟩))
    (fun os started H enc _ => lifted os started H enc)
end Go.Proofs.Ytfglahmbnnkijaa.fnUdiffLines
namespace Go.Proofs.Ytfglahmbnnkijaa
/-- The statement, under a short name, for the claim. -/
theorem fnUdiffLines_holds : Rows.FnUdiffLinesSaid := fnUdiffLines.said
#print axioms fnUdiffLines_holds
end Go.Proofs.Ytfglahmbnnkijaa
