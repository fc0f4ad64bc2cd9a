import Derived.Test.YtblmeoigjbnmiaaDoorCards
import Derived.Test.YtblmeoigjbnmiaaDoorTie
import Derived.Test.YtblmeoigjbnmiaaDoorEvOk
import Derived.Test.YtblmeoigjbnmiaaDoorPureFnEfficiencyFewer
import Derived.WalkKit
import Derived.ProofKit
import Derived.OpenShut
import Derived.ShutString
import Derived.ChangeOld
import Derived.Below
import Derived.SizedLaws
import Derived.Deep.DeepHandedRow
import Derived.Lib.LaidTab
import Derived.Lib.LaidIn
import Derived.Lib.LaidU8T
import Derived.SevenTiedAt
/- The statement FnEfficiencyFewer: from its pure form to the given row and card. -/
namespace Go.Proofs.YtblmeoigjbnmiaaDoor.fnEfficiencyFewer
open Go.ChangeShapes Go.WideShapes Go.ChangeAt Go.RowKit Go.Ev Go.Proofs.YtblmeoigjbnmiaaDoor.E
open Go.ChangeMaps (open_string shut_string)
set_option linter.unusedVariables false
set_option linter.unusedSimpArgs false
theorem own : ownKnob Tryd.prog.godebug = none := by kernel_rfl
theorem laidOut : laidOutB Tryd.prog = true := by kernel_rfl
theorem elem42 {H : Type} {enc : TypeId × Value → H} {w : World} {base : Nat} {spare : Nat → Bool} {held : Bool} : ∀ n cs x, DataW.trod enc Tryd.prog w base spare held n 42 cs = some x → ∃ y : Ty.den TS2, cs = Ty.cells TS2 y ∧ (((Lit.int .i64 y.1).wf = true) ∧ (y.2.size ≤ 9223372036854775807)) := by
  intro n cs x h
  obtain ⟨xs, m, _, _, hlen, hl, hf⟩ := DataW.trod_struct Tryd.underlying42 h
  rw [show Tryd.prog.cellsOf 42 = 2 from by kernel_rfl] at hlen
  obtain ⟨u0, u1, rfl⟩ := len2 hlen
  obtain ⟨x0, x1, rfl⟩ := len2 (show xs.length = 2 from hl)
  have h0 : DataW.trod enc Tryd.prog w base spare held m 2 ((List.drop 0 [u0, u1]).take (Tryd.prog.cellsOf 2)) = [x0, x1][0]? := hf 0 _ rfl
  rw [show Tryd.prog.cellsOf 2 = 1 from by kernel_rfl] at h0
  simp only [List.drop, List.take, List.getElem?_cons_zero, List.getElem?_cons_succ] at h0
  have h1 : DataW.trod enc Tryd.prog w base spare held m 9 ((List.drop 1 [u0, u1]).take (Tryd.prog.cellsOf 9)) = [x0, x1][1]? := hf 1 _ rfl
  rw [show Tryd.prog.cellsOf 9 = 1 from by kernel_rfl] at h1
  simp only [List.drop, List.take, List.getElem?_cons_zero, List.getElem?_cons_succ] at h1
  obtain ⟨a0, e0, _, w0⟩ := DataW.trod_int Tryd.underlying2 h0
  simp only [List.cons.injEq, and_true] at e0
  subst e0
  obtain ⟨a1, e1, _, w1⟩ := DataW.trod_string Tryd.underlying9 h1
  simp only [List.cons.injEq, and_true] at e1
  subst e1
  exact ⟨(a0, a1), rfl, w0, (by simpa [maxLen] using w1)⟩
theorem e_first : (Rows.laid_unicode_utf8_first : DataW Unit) = Lib.firstData := by kernel_rfl
theorem e_accept : (Rows.laid_unicode_utf8_acceptRanges : DataW Unit) = Lib.acceptData := by kernel_rfl
theorem glob {W : World} (h : laidMetH Tryd.prog Rows.fnEfficiencyFewerRow.laid W) : Glob W := by
  have h1 := Lib.laidMet.reads h (show ("unicode/utf8.first", (Rows.laid_unicode_utf8_first : DataW Unit)) ∈ Rows.fnEfficiencyFewerRow.laid from (.tail _ (.head _)))
  have h2 := Lib.laidMet.reads h (show ("unicode/utf8.acceptRanges", (Rows.laid_unicode_utf8_acceptRanges : DataW Unit)) ∈ Rows.fnEfficiencyFewerRow.laid from (.head _))
  rw [e_first] at h1
  rw [e_accept] at h2
  exact ⟨utf8Tabs_of_readsT (U8Types.of196 Tryd.laysValid) ⟨by kernel_rfl, by kernel_rfl, by kernel_rfl, by kernel_rfl, by kernel_rfl, by kernel_rfl, by kernel_rfl⟩ h1 h2⟩
set_option maxRecDepth 100000 in
theorem contract (H : Type) (enc : TypeId × Value → H) (W : World) (base : Nat) (args : Array Value) (ds gs : List (DataW H)) (before : List MemPlace)
    (hval : ∀ (j : Nat) t v, Tryd.f6.params[j]? = some t → args[j]? = some v → Value.okWide Tryd.prog W .any base t v)
    (hW : DataW.Whole enc Tryd.prog Tryd.f6.params.toList Rows.fnEfficiencyFewerSpec.vars false W args.toList ds gs before) (hL : laidMetH Tryd.prog Rows.fnEfficiencyFewerRow.laid W) :
    Calls Tryd.prog 6 args W fun e W' => ∃ v, e = .returned v ∧ Rows.fnEfficiencyFewerSpec.post enc Tryd.prog Tryd.f6 false true false false W args v W' := by
  have hW' := hW
  obtain ⟨p, q, hA0, hV, rfl, hfz, hnd⟩ := hW
  have hA : DataW.TrodAll enc Tryd.prog W 0 (fun _ => true) true Tryd.f6.params.toList args.toList ds p := hA0
  rw [Tryd.params6] at hA hval
  obtain ⟨v0, vs0, d0, ds0, p0, q0, hargs, rfl, rfl, h0, r0⟩ := trodAll_cons hA
  obtain ⟨v1, vs1, d1, ds1, p1, q1, rfl, rfl, rfl, h1, r1⟩ := trodAll_cons r0
  obtain ⟨rfl, rfl, rfl⟩ := trodAll_nil r1
  obtain rfl : args = #[v0, v1] := by cases args; simp_all
  obtain ⟨rfl, rfl⟩ := trodVars_none hV
  obtain ⟨A0, len0, cap0, rfl⟩ := okWide_slice Tryd.underlying27 (hval 0 27 v0 rfl rfl)
  have k0 := h0
  have lt0 : ∀ x ∈ p0, x.block < W.heap.size := by obtain ⟨m, hm⟩ := k0; exact DataW.trod_lt m _ _ _ hm
  obtain ⟨fuel0, hf0⟩ := h0
  obtain ⟨A0', len0', cap0', l0, hcs0, hll0, hcm0, hC0, hG0⟩ := open_ty TS2 (fun y => ((Lit.int .i64 y.1).wf = true) ∧ (y.2.size ≤ 9223372036854775807)) Tryd.underlying27 (by kernel_rfl) elem42 hf0
  simp only [Value.cells, List.cons.injEq, Value.slice.injEq, and_true] at hcs0
  obtain ⟨rfl, rfl, rfl⟩ := hcs0
  subst hll0
  obtain ⟨a1, rfl, rfl, rfl, w1⟩ := open_int Tryd.underlying2 (hval 1 2 v1 rfl rfl) h1
  clear hA0 hval
  obtain ⟨k, hk⟩ := Pure.FnEfficiencyFewer l0 a1 ⟨(by simpa [maxLen] using hcm0), hG0⟩ w1
  have hcall := ((callF_ok W (ext_ok W (glob hL)) k 6) _ true hk).2 HEnv.zero W (fun _ => False) [Value.slice A0 _ cap0, Value.int .i64 a1] (Below.refl _ _) (fun g hg => hg.elim) ⟨⟨hC0, fun _ g _ hg => hg⟩, ⟨rfl, trivial⟩⟩ List.Pairwise.nil (HpOk.empty W rfl) (fun n h => absurd rfl h)
  refine hcall.mono fun e W' ⟨Rs, _, he, hR, _, hP, _⟩ => ?_
  have hV : Rs = [Value.bool true] := by
    match Rs, hR with
    | [V], hR => exact congrArg (fun v => [v]) hR
  subst hV
  have bel : Below W.heap.size W W' := hP.below (fun _ h => h.elim) (Nat.le_refl _)
  subst he
  exact ⟨_, rfl, _, _, _, [], _, [], hW', trodAll_mk1 (shut_bool Tryd.underlying4 _), (trodAll_cons_mk (Below.trod laidOut (by kernel_rfl) (of_decide_eq_true (by kernel_rfl)) k0 bel lt0) (trodAll_cons_mk (shut_int Tryd.underlying2 w1) trodAll_mk0)), rfl, bel.frame _, fun h => by cases h⟩
/-- A world for the witness: the settled one, the listed variables holding what their initialisers lay. -/
noncomputable def laidWorld (os : Os) : World :=
  let w0 := World.holding Tryd.prog os ⟨#[], #[], []⟩
  let put (h : Array Obj) (g : Nat) (cs : Array Value) : Array Obj := h.modify g fun
    | .cells _ t frozen => .cells cs t frozen
    | o => o
  let h0 := put w0.heap 1 ((List.range 16).flatMap fun i => [Value.int .u8 (Lib.accLo i), Value.int .u8 (Lib.accHi i)]).toArray
  let h1 := put h0 0 (Lib.firstTab.map fun z => Value.int .u8 z).toArray
  { w0 with heap := h1 }
theorem laid_met (os : Os) : laidMet Tryd.prog Rows.fnEfficiencyFewerRow.laid ((laidWorld os).forCall (fun _ _ => 0) ⟨#[], #[.slice none 0 0, .int .i64 0], []⟩).memory :=
  laidMet_of_run' 8 (by kernel_rfl) (by kernel_rfl)
theorem reads (os : Os) {H : Type} (enc : TypeId × Value → H) : ∃ places, DataW.whole enc Tryd.prog ((laidWorld os).forCall (fun _ _ => 0) ⟨#[], #[.slice none 0 0, .int .i64 0], []⟩).memory Tryd.f6.params.toList Rows.fnEfficiencyFewerSpec.vars false #[Value.slice none 0 0, Value.int .i64 0].toList 8 = some ([.nil, .lit (.int .i64 0)], [], places) :=
  ⟨[], by kernel_rfl⟩
set_option maxRecDepth 100000 in
theorem lifted (os : Os) (started : os.Started) (H : Type) (enc : TypeId × Value → H) (F : Stop.Interp) :
    ReturnsInHanded {} Tryd.checked os 6 .any ((OpenSpec.ofChange Rows.fnEfficiencyFewerSpec).preRow enc Tryd.prog Tryd.f6 Rows.fnEfficiencyFewerRow.domain false Rows.fnEfficiencyFewerRow.laid) (((OpenSpec.ofChange Rows.fnEfficiencyFewerSpec).at F).post enc Tryd.prog Tryd.f6 false true false false) := by
  obtain ⟨places, hx⟩ := reads os enc
  refine returnsInHanded_of_row (C := Tryd.checked) (s := OpenSpec.ofChange Rows.fnEfficiencyFewerSpec) own started (by kernel_rfl) Tryd.func6
    (witness_row_at (enc := enc) (C := Tryd.checked) false (laidWorld os) #[.slice none 0 0, .int .i64 0] rfl (by kernel_rfl) (by kernel_rfl) (by kernel_rfl)
      (OpenSpec.preRow_of_cond 8 hx (by kernel_rfl) (fun k hk => by cases hk) (by kernel_rfl) (laid_met os))) ?_
  intro W base args ds gs before hval hW _ _ _ hL _ _
  exact contract H enc W base args ds gs before hval hW hL
theorem said : Rows.FnEfficiencyFewerSaid :=
  OpenClaim.holds_of_cond 6 Tryd.f6 rfl rfl rfl rfl rfl rfl rfl ⟨rfl, rfl, rfl, rfl, rfl⟩ rfl rfl rfl rfl rfl (by kernel_rfl) Tryd.func6 (by kernel_rfl)
    (of_decide_eq_true (by kernel_rfl)) (by unfold Func.isWrapper; first | (rw [if_pos (by decide +kernel)]; kernel_rfl) | (rw [if_neg (by decide +kernel)]; exact ⟨rfl, rfl⟩))
    (fun os started H enc _ F => by rw [OpenClaim.pre_eq_preRow]; exact lifted os started H enc F)
theorem plain (f : FuncId) (fn : Func) (hf : Tryd.pinned.checked.prog.funcNamed "pub-emendator/laws.FnEfficiencyFewer" = some f) (hfn : Tryd.pinned.checked.prog.funcs[f]? = some fn) :
    false = Tryd.pinned.checked.prog.looks [] ∧ ∀ (j : Nat) t, fn.params[j]? = some t → Tryd.pinned.checked.prog.wantsStandIn t = false := by
  obtain rfl : f = 6 := Option.some.inj ((show Tryd.prog.funcNamed "pub-emendator/laws.FnEfficiencyFewer" = some 6 by kernel_rfl).symm.trans hf) |>.symm
  obtain rfl : fn = Tryd.f6 := (Option.some.inj (Tryd.func6.symm.trans hfn)).symm
  refine ⟨by kernel_rfl, fun j t ht => ?_⟩
  rw [Tryd.params6] at ht
  have hm : t ∈ [27, 2] := by simpa using Array.mem_of_getElem? ht
  have hall : ([27, 2].all fun u => !Tryd.prog.wantsStandIn u) = true := by kernel_rfl
  exact (show Tryd.prog.wantsStandIn t = false by simpa using List.all_eq_true.1 hall t hm)
theorem card : Rows.FnEfficiencyFewerCardSaid :=
  Claim7.holds_tied_plain_at .later [] _ _ _ _ said (fun _ h => by cases h) (by kernel_rfl) (fun _ h => by cases h) fnEfficiencyFewer_row_tie rfl ⟨rfl, rfl⟩ (by kernel_rfl) rfl plain (by kernel_rfl)
end Go.Proofs.YtblmeoigjbnmiaaDoor.fnEfficiencyFewer
namespace Go.Proofs.YtblmeoigjbnmiaaDoor
/-- The statement, under a short name, for the claim. -/
theorem fnEfficiencyFewer_holds : Rows.FnEfficiencyFewerCardSaid := fnEfficiencyFewer.card
#print axioms fnEfficiencyFewer_holds
end Go.Proofs.YtblmeoigjbnmiaaDoor
