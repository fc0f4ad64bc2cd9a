import Derived.Test.YtfefjbifdbfmjaaDoorEvT
import Derived.Test.YtfefjbifdbfmjaaDoorEvX
/- Written by a program of this session (wip/tools/mkev.py): the table fits the program, and the functions do what they evaluate to. -/
namespace Go.Proofs.YtfefjbifdbfmjaaDoor.E
open Go.Ev
theorem sz2 : SzOk Go.Proofs.Tryd.prog 2 (.int .i64) := szOk_of (by kernel_rfl) (by kernel_rfl) (by kernel_rfl)
theorem sz3 : SzOk Go.Proofs.Tryd.prog 3 (.int .i64) := szOk_of (by kernel_rfl) (by kernel_rfl) (by kernel_rfl)
theorem sz4 : SzOk Go.Proofs.Tryd.prog 4 .bool := szOk_of (by kernel_rfl) (by kernel_rfl) (by kernel_rfl)
theorem sz5 : SzOk Go.Proofs.Tryd.prog 5 (.int .u8) := szOk_of (by kernel_rfl) (by kernel_rfl) (by kernel_rfl)
theorem sz9 : SzOk Go.Proofs.Tryd.prog 9 .str := szOk_of (by kernel_rfl) (by kernel_rfl) (by kernel_rfl)
theorem sz21 : SzOk Go.Proofs.Tryd.prog 21 (.int .i32) := szOk_of (by kernel_rfl) (by kernel_rfl) (by kernel_rfl)
theorem sz40 : SzOk Go.Proofs.Tryd.prog 40 TS1 := szOk_of (by kernel_rfl) (by kernel_rfl) (by kernel_rfl)
theorem sz45 : SzOk Go.Proofs.Tryd.prog 45 .nile := szOk_of (by kernel_rfl) (by kernel_rfl) (by kernel_rfl)
theorem sz52 : SzOk Go.Proofs.Tryd.prog 52 TS1 := szOk_of (by kernel_rfl) (by kernel_rfl) (by kernel_rfl)
theorem sz64 : SzOk Go.Proofs.Tryd.prog 64 .flt := szOk_of (by kernel_rfl) (by kernel_rfl) (by kernel_rfl)
theorem sz66 : SzOk Go.Proofs.Tryd.prog 66 TS2 := szOk_of (by kernel_rfl) (by kernel_rfl) (by kernel_rfl)
theorem sz74 : SzOk Go.Proofs.Tryd.prog 74 (.int .i8) := szOk_of (by kernel_rfl) (by kernel_rfl) (by kernel_rfl)
theorem sz76 : SzOk Go.Proofs.Tryd.prog 76 TS0 := szOk_of (by kernel_rfl) (by kernel_rfl) (by kernel_rfl)
theorem sz98 : SzOk Go.Proofs.Tryd.prog 98 TS3 := szOk_of (by kernel_rfl) (by kernel_rfl) (by kernel_rfl)
theorem un2 : UndOk Go.Proofs.Tryd.prog 2 (.int .i64) := by show _ = _; kernel_rfl
theorem un3 : UndOk Go.Proofs.Tryd.prog 3 (.int .i64) := by show _ = _; kernel_rfl
theorem un4 : UndOk Go.Proofs.Tryd.prog 4 .bool := by show _ = _; kernel_rfl
theorem un5 : UndOk Go.Proofs.Tryd.prog 5 (.int .u8) := by show _ = _; kernel_rfl
theorem un9 : UndOk Go.Proofs.Tryd.prog 9 .str := by show _ = _; kernel_rfl
theorem un21 : UndOk Go.Proofs.Tryd.prog 21 (.int .i32) := by show _ = _; kernel_rfl
theorem un40 : UndOk Go.Proofs.Tryd.prog 40 TS1 := ⟨structOf Go.Proofs.Tryd.prog 40, by kernel_rfl, fieldsOk_of (l := [(0, 2), (1, 9)]) (by kernel_rfl) ⟨⟨rfl, sz2, fun _ => un2⟩, ⟨rfl, sz9, fun _ => un9⟩⟩⟩
theorem un45 : UndOk Go.Proofs.Tryd.prog 45 .nile := ⟨ifaceOf Go.Proofs.Tryd.prog 45, by kernel_rfl⟩
theorem un52 : UndOk Go.Proofs.Tryd.prog 52 TS1 := ⟨structOf Go.Proofs.Tryd.prog 52, by kernel_rfl, fieldsOk_of (l := [(0, 2), (1, 9)]) (by kernel_rfl) ⟨⟨rfl, sz2, fun _ => un2⟩, ⟨rfl, sz9, fun _ => un9⟩⟩⟩
theorem un64 : UndOk Go.Proofs.Tryd.prog 64 .flt := by show _ = _; kernel_rfl
theorem un66 : UndOk Go.Proofs.Tryd.prog 66 TS2 := ⟨structOf Go.Proofs.Tryd.prog 66, by kernel_rfl, fieldsOk_of (l := [(0, 2), (1, 3), (2, 3), (3, 64), (4, 3), (5, 3), (6, 64)]) (by kernel_rfl) ⟨⟨rfl, sz2, fun _ => un2⟩, ⟨⟨rfl, sz3, fun _ => un3⟩, ⟨⟨rfl, sz3, fun _ => un3⟩, ⟨⟨rfl, sz64, fun _ => un64⟩, ⟨⟨rfl, sz3, fun _ => un3⟩, ⟨⟨rfl, sz3, fun _ => un3⟩, ⟨rfl, sz64, fun _ => un64⟩⟩⟩⟩⟩⟩⟩⟩
theorem un74 : UndOk Go.Proofs.Tryd.prog 74 (.int .i8) := by show _ = _; kernel_rfl
theorem un76 : UndOk Go.Proofs.Tryd.prog 76 TS0 := ⟨structOf Go.Proofs.Tryd.prog 76, by kernel_rfl, fieldsOk_of (l := [(0, 74), (1, 9)]) (by kernel_rfl) ⟨⟨rfl, sz74, fun _ => un74⟩, ⟨rfl, sz9, fun _ => un9⟩⟩⟩
theorem un98 : UndOk Go.Proofs.Tryd.prog 98 TS3 := ⟨structOf Go.Proofs.Tryd.prog 98, by kernel_rfl, fieldsOk_of (l := [(0, 9)]) (by kernel_rfl) ⟨rfl, sz9, fun _ => un9⟩⟩
theorem eq52 : EqOk Go.Proofs.Tryd.prog 52 := eqOk_of (by kernel_rfl) (by kernel_rfl) (by kernel_rfl)
theorem tab_ty (n : TypeId) (t : Ty) (h : T.ty n = some t) : SzOk Go.Proofs.Tryd.prog n t ∧ UndOk Go.Proofs.Tryd.prog n t := by
  unfold T at h
  dsimp only at h
  split at h
  · cases h; exact ⟨sz2, un2⟩
  · cases h; exact ⟨sz3, un3⟩
  · cases h; exact ⟨sz4, un4⟩
  · cases h; exact ⟨sz5, un5⟩
  · cases h; exact ⟨sz9, un9⟩
  · cases h; exact ⟨sz40, un40⟩
  · cases h; exact ⟨sz45, un45⟩
  · cases h; exact ⟨sz52, un52⟩
  · cases h; exact ⟨sz66, un66⟩
  · cases h; exact ⟨sz74, un74⟩
  · cases h; exact ⟨sz76, un76⟩
  · cases h; exact ⟨sz98, un98⟩
  · cases h
theorem tab_sl (n : TypeId) (t : Ty) (e : TypeId) (h : T.sl n = some (t, e)) : Go.Proofs.Tryd.prog.underlying n = some (.slice e) ∧ SzOk Go.Proofs.Tryd.prog e t ∧ UndOk Go.Proofs.Tryd.prog e t := by
  unfold T at h
  dsimp only at h
  split at h
  · cases h; exact ⟨by kernel_rfl, sz40, un40⟩
  · cases h; exact ⟨by kernel_rfl, sz52, un52⟩
  · cases h; exact ⟨by kernel_rfl, sz76, un76⟩
  · cases h; exact ⟨by kernel_rfl, sz21, un21⟩
  · cases h; exact ⟨by kernel_rfl, sz9, un9⟩
  · cases h; exact ⟨by kernel_rfl, sz5, un5⟩
  · cases h
theorem tab_eq (n : TypeId) (h : T.eq n = true) : EqOk Go.Proofs.Tryd.prog n := by
  unfold T at h
  dsimp only at h
  split at h
  · exact eq52
  · cases h
theorem Tc_eq : Tc = T := by
  have h1 : (fun x y : Int => decide (x < y)) = ltI := by funext x y; exact (ltI_eq x y).symm
  have h2 : (fun x y : Int => decide (x ≤ y)) = leI := by funext x y; exact (leI_eq x y).symm
  have h3 : (fun x y : Int => decide (x = y)) = Go.Ev.eqI := by funext x y; exact (eqI_eq x y).symm
  have h4 : (fun x y : Nat => Nat.ble x y) = nleI := by
    funext x y
    rw [nleI_eq]
    cases h : Nat.ble x y with
    | true => exact (decide_eq_true (Nat.le_of_ble_eq_true h)).symm
    | false => exact (decide_eq_false (fun g => by rw [Nat.ble_eq_true_of_le g] at h; cases h)).symm
  have h5 : (fun x y : ByteArray => x.data.toList == y.data.toList) = Go.Ev.eqS := by funext x y; rw [eqS_eq, ByteArray.toList_eq, ByteArray.toList_eq]
  unfold Tc T
  simp only [h1, h2, h3, h4, h5]
theorem tabOk : TabOk Go.Proofs.Tryd.prog T := ⟨tab_ty, tab_sl, tab_eq, ltI_eq, leI_eq, eqI_eq, nleI_eq, eqS_eq, i2fI_eq, f2iI_eq, foI_eq, faI_eq⟩
theorem fn3 : Go.Proofs.Tryd.prog.funcs[3]? = some Go.Proofs.Tryd.f3 ∧ fnOk T (sg 3) Go.Proofs.Tryd.f3 = true := ⟨Go.Proofs.Tryd.func3, by kernel_rfl⟩
theorem fn4 : Go.Proofs.Tryd.prog.funcs[4]? = some Go.Proofs.Tryd.f4 ∧ fnOk T (sg 4) Go.Proofs.Tryd.f4 = true := ⟨Go.Proofs.Tryd.func4, by kernel_rfl⟩
theorem fn5 : Go.Proofs.Tryd.prog.funcs[5]? = some Go.Proofs.Tryd.f5 ∧ fnOk T (sg 5) Go.Proofs.Tryd.f5 = true := ⟨Go.Proofs.Tryd.func5, by kernel_rfl⟩
theorem fn6 : Go.Proofs.Tryd.prog.funcs[6]? = some Go.Proofs.Tryd.f6 ∧ fnOk T (sg 6) Go.Proofs.Tryd.f6 = true := ⟨Go.Proofs.Tryd.func6, by kernel_rfl⟩
theorem fn7 : Go.Proofs.Tryd.prog.funcs[7]? = some Go.Proofs.Tryd.f7 ∧ fnOk T (sg 7) Go.Proofs.Tryd.f7 = true := ⟨Go.Proofs.Tryd.func7, by kernel_rfl⟩
theorem fn8 : Go.Proofs.Tryd.prog.funcs[8]? = some Go.Proofs.Tryd.f8 ∧ fnOk T (sg 8) Go.Proofs.Tryd.f8 = true := ⟨Go.Proofs.Tryd.func8, by kernel_rfl⟩
theorem fn9 : Go.Proofs.Tryd.prog.funcs[9]? = some Go.Proofs.Tryd.f9 ∧ fnOk T (sg 9) Go.Proofs.Tryd.f9 = true := ⟨Go.Proofs.Tryd.func9, by kernel_rfl⟩
theorem fn10 : Go.Proofs.Tryd.prog.funcs[10]? = some Go.Proofs.Tryd.f10 ∧ fnOk T (sg 10) Go.Proofs.Tryd.f10 = true := ⟨Go.Proofs.Tryd.func10, by kernel_rfl⟩
theorem fn11 : Go.Proofs.Tryd.prog.funcs[11]? = some Go.Proofs.Tryd.f11 ∧ fnOk T (sg 11) Go.Proofs.Tryd.f11 = true := ⟨Go.Proofs.Tryd.func11, by kernel_rfl⟩
theorem fn12 : Go.Proofs.Tryd.prog.funcs[12]? = some Go.Proofs.Tryd.f12 ∧ fnOk T (sg 12) Go.Proofs.Tryd.f12 = true := ⟨Go.Proofs.Tryd.func12, by kernel_rfl⟩
theorem fn13 : Go.Proofs.Tryd.prog.funcs[13]? = some Go.Proofs.Tryd.f13 ∧ fnOk T (sg 13) Go.Proofs.Tryd.f13 = true := ⟨Go.Proofs.Tryd.func13, by kernel_rfl⟩
theorem fn14 : Go.Proofs.Tryd.prog.funcs[14]? = some Go.Proofs.Tryd.f14 ∧ fnOk T (sg 14) Go.Proofs.Tryd.f14 = true := ⟨Go.Proofs.Tryd.func14, by kernel_rfl⟩
theorem fn15 : Go.Proofs.Tryd.prog.funcs[15]? = some Go.Proofs.Tryd.f15 ∧ fnOk T (sg 15) Go.Proofs.Tryd.f15 = true := ⟨Go.Proofs.Tryd.func15, by kernel_rfl⟩
theorem fn16 : Go.Proofs.Tryd.prog.funcs[16]? = some Go.Proofs.Tryd.f16 ∧ fnOk T (sg 16) Go.Proofs.Tryd.f16 = true := ⟨Go.Proofs.Tryd.func16, by kernel_rfl⟩
theorem fn17 : Go.Proofs.Tryd.prog.funcs[17]? = some Go.Proofs.Tryd.f17 ∧ fnOk T (sg 17) Go.Proofs.Tryd.f17 = true := ⟨Go.Proofs.Tryd.func17, by kernel_rfl⟩
theorem fn18 : Go.Proofs.Tryd.prog.funcs[18]? = some Go.Proofs.Tryd.f18 ∧ fnOk T (sg 18) Go.Proofs.Tryd.f18 = true := ⟨Go.Proofs.Tryd.func18, by kernel_rfl⟩
theorem fn19 : Go.Proofs.Tryd.prog.funcs[19]? = some Go.Proofs.Tryd.f19 ∧ fnOk T (sg 19) Go.Proofs.Tryd.f19 = true := ⟨Go.Proofs.Tryd.func19, by kernel_rfl⟩
theorem fn20 : Go.Proofs.Tryd.prog.funcs[20]? = some Go.Proofs.Tryd.f20 ∧ fnOk T (sg 20) Go.Proofs.Tryd.f20 = true := ⟨Go.Proofs.Tryd.func20, by kernel_rfl⟩
theorem fn21 : Go.Proofs.Tryd.prog.funcs[21]? = some Go.Proofs.Tryd.f21 ∧ fnOk T (sg 21) Go.Proofs.Tryd.f21 = true := ⟨Go.Proofs.Tryd.func21, by kernel_rfl⟩
theorem fn22 : Go.Proofs.Tryd.prog.funcs[22]? = some Go.Proofs.Tryd.f22 ∧ fnOk T (sg 22) Go.Proofs.Tryd.f22 = true := ⟨Go.Proofs.Tryd.func22, by kernel_rfl⟩
theorem fn23 : Go.Proofs.Tryd.prog.funcs[23]? = some Go.Proofs.Tryd.f23 ∧ fnOk T (sg 23) Go.Proofs.Tryd.f23 = true := ⟨Go.Proofs.Tryd.func23, by kernel_rfl⟩
theorem fn24 : Go.Proofs.Tryd.prog.funcs[24]? = some Go.Proofs.Tryd.f24 ∧ fnOk T (sg 24) Go.Proofs.Tryd.f24 = true := ⟨Go.Proofs.Tryd.func24, by kernel_rfl⟩
theorem fn25 : Go.Proofs.Tryd.prog.funcs[25]? = some Go.Proofs.Tryd.f25 ∧ fnOk T (sg 25) Go.Proofs.Tryd.f25 = true := ⟨Go.Proofs.Tryd.func25, by kernel_rfl⟩
theorem fn26 : Go.Proofs.Tryd.prog.funcs[26]? = some Go.Proofs.Tryd.f26 ∧ fnOk T (sg 26) Go.Proofs.Tryd.f26 = true := ⟨Go.Proofs.Tryd.func26, by kernel_rfl⟩
theorem fn27 : Go.Proofs.Tryd.prog.funcs[27]? = some Go.Proofs.Tryd.f27 ∧ fnOk T (sg 27) Go.Proofs.Tryd.f27 = true := ⟨Go.Proofs.Tryd.func27, by kernel_rfl⟩
theorem fn28 : Go.Proofs.Tryd.prog.funcs[28]? = some Go.Proofs.Tryd.f28 ∧ fnOk T (sg 28) Go.Proofs.Tryd.f28 = true := ⟨Go.Proofs.Tryd.func28, by kernel_rfl⟩
theorem fn29 : Go.Proofs.Tryd.prog.funcs[29]? = some Go.Proofs.Tryd.f29 ∧ fnOk T (sg 29) Go.Proofs.Tryd.f29 = true := ⟨Go.Proofs.Tryd.func29, by kernel_rfl⟩
theorem fn30 : Go.Proofs.Tryd.prog.funcs[30]? = some Go.Proofs.Tryd.f30 ∧ fnOk T (sg 30) Go.Proofs.Tryd.f30 = true := ⟨Go.Proofs.Tryd.func30, by kernel_rfl⟩
theorem fn32 : Go.Proofs.Tryd.prog.funcs[32]? = some Go.Proofs.Tryd.f32 ∧ fnOk T (sg 32) Go.Proofs.Tryd.f32 = true := ⟨Go.Proofs.Tryd.func32, by kernel_rfl⟩
theorem fn33 : Go.Proofs.Tryd.prog.funcs[33]? = some Go.Proofs.Tryd.f33 ∧ fnOk T (sg 33) Go.Proofs.Tryd.f33 = true := ⟨Go.Proofs.Tryd.func33, by kernel_rfl⟩
theorem fn34 : Go.Proofs.Tryd.prog.funcs[34]? = some Go.Proofs.Tryd.f34 ∧ fnOk T (sg 34) Go.Proofs.Tryd.f34 = true := ⟨Go.Proofs.Tryd.func34, by kernel_rfl⟩
theorem fn35 : Go.Proofs.Tryd.prog.funcs[35]? = some Go.Proofs.Tryd.f35 ∧ fnOk T (sg 35) Go.Proofs.Tryd.f35 = true := ⟨Go.Proofs.Tryd.func35, by kernel_rfl⟩
theorem fn36 : Go.Proofs.Tryd.prog.funcs[36]? = some Go.Proofs.Tryd.f36 ∧ fnOk T (sg 36) Go.Proofs.Tryd.f36 = true := ⟨Go.Proofs.Tryd.func36, by kernel_rfl⟩
theorem fn37 : Go.Proofs.Tryd.prog.funcs[37]? = some Go.Proofs.Tryd.f37 ∧ fnOk T (sg 37) Go.Proofs.Tryd.f37 = true := ⟨Go.Proofs.Tryd.func37, by kernel_rfl⟩
theorem fn40 : Go.Proofs.Tryd.prog.funcs[40]? = some Go.Proofs.Tryd.f40 ∧ fnOk T (sg 40) Go.Proofs.Tryd.f40 = true := ⟨Go.Proofs.Tryd.func40, by kernel_rfl⟩
theorem fn41 : Go.Proofs.Tryd.prog.funcs[41]? = some Go.Proofs.Tryd.f41 ∧ fnOk T (sg 41) Go.Proofs.Tryd.f41 = true := ⟨Go.Proofs.Tryd.func41, by kernel_rfl⟩
theorem fn42 : Go.Proofs.Tryd.prog.funcs[42]? = some Go.Proofs.Tryd.f42 ∧ fnOk T (sg 42) Go.Proofs.Tryd.f42 = true := ⟨Go.Proofs.Tryd.func42, by kernel_rfl⟩
theorem fn43 : Go.Proofs.Tryd.prog.funcs[43]? = some Go.Proofs.Tryd.f43 ∧ fnOk T (sg 43) Go.Proofs.Tryd.f43 = true := ⟨Go.Proofs.Tryd.func43, by kernel_rfl⟩
theorem fn45 : Go.Proofs.Tryd.prog.funcs[45]? = some Go.Proofs.Tryd.f45 ∧ fnOk T (sg 45) Go.Proofs.Tryd.f45 = true := ⟨Go.Proofs.Tryd.func45, by kernel_rfl⟩
theorem fn49 : Go.Proofs.Tryd.prog.funcs[49]? = some Go.Proofs.Tryd.f49 ∧ fnOk T (sg 49) Go.Proofs.Tryd.f49 = true := ⟨Go.Proofs.Tryd.func49, by kernel_rfl⟩
theorem fn52 : Go.Proofs.Tryd.prog.funcs[52]? = some Go.Proofs.Tryd.f52 ∧ fnOk T (sg 52) Go.Proofs.Tryd.f52 = true := ⟨Go.Proofs.Tryd.func52, by kernel_rfl⟩
theorem fn53 : Go.Proofs.Tryd.prog.funcs[53]? = some Go.Proofs.Tryd.f53 ∧ fnOk T (sg 53) Go.Proofs.Tryd.f53 = true := ⟨Go.Proofs.Tryd.func53, by kernel_rfl⟩
theorem fn54 : Go.Proofs.Tryd.prog.funcs[54]? = some Go.Proofs.Tryd.f54 ∧ fnOk T (sg 54) Go.Proofs.Tryd.f54 = true := ⟨Go.Proofs.Tryd.func54, by kernel_rfl⟩
theorem fn55 : Go.Proofs.Tryd.prog.funcs[55]? = some Go.Proofs.Tryd.f55 ∧ fnOk T (sg 55) Go.Proofs.Tryd.f55 = true := ⟨Go.Proofs.Tryd.func55, by kernel_rfl⟩
theorem fn56 : Go.Proofs.Tryd.prog.funcs[56]? = some Go.Proofs.Tryd.f56 ∧ fnOk T (sg 56) Go.Proofs.Tryd.f56 = true := ⟨Go.Proofs.Tryd.func56, by kernel_rfl⟩
theorem fn57 : Go.Proofs.Tryd.prog.funcs[57]? = some Go.Proofs.Tryd.f57 ∧ fnOk T (sg 57) Go.Proofs.Tryd.f57 = true := ⟨Go.Proofs.Tryd.func57, by kernel_rfl⟩
theorem fn64 : Go.Proofs.Tryd.prog.funcs[64]? = some Go.Proofs.Tryd.f64 ∧ fnOk T (sg 64) Go.Proofs.Tryd.f64 = true := ⟨Go.Proofs.Tryd.func64, by kernel_rfl⟩
theorem fnOf_ok (f : FuncId) (fn : Func) (h : fnOf f = some fn) : Go.Proofs.Tryd.prog.funcs[f]? = some fn ∧ fnOk T (sg f) fn = true := by
  unfold fnOf at h
  split at h
  · cases h; exact fn3
  · cases h; exact fn4
  · cases h; exact fn5
  · cases h; exact fn6
  · cases h; exact fn7
  · cases h; exact fn8
  · cases h; exact fn9
  · cases h; exact fn10
  · cases h; exact fn11
  · cases h; exact fn12
  · cases h; exact fn13
  · cases h; exact fn14
  · cases h; exact fn15
  · cases h; exact fn16
  · cases h; exact fn17
  · cases h; exact fn18
  · cases h; exact fn19
  · cases h; exact fn20
  · cases h; exact fn21
  · cases h; exact fn22
  · cases h; exact fn23
  · cases h; exact fn24
  · cases h; exact fn25
  · cases h; exact fn26
  · cases h; exact fn27
  · cases h; exact fn28
  · cases h; exact fn29
  · cases h; exact fn30
  · cases h; exact fn32
  · cases h; exact fn33
  · cases h; exact fn34
  · cases h; exact fn35
  · cases h; exact fn36
  · cases h; exact fn37
  · cases h; exact fn40
  · cases h; exact fn41
  · cases h; exact fn42
  · cases h; exact fn43
  · cases h; exact fn45
  · cases h; exact fn49
  · cases h; exact fn52
  · cases h; exact fn53
  · cases h; exact fn54
  · cases h; exact fn55
  · cases h; exact fn56
  · cases h; exact fn57
  · cases h; exact fn64
  · cases h
theorem callF_ok (W : World) (hx : ∀ cf : (f : FuncId) → argL (sg f).ps → Option (retL (sg f).rs), (∀ f, CallOk Go.Proofs.Tryd.prog W sg cf f) → ∀ f, CallOk Go.Proofs.Tryd.prog W sg (extF cf) f) : ∀ (K : Nat) (f : FuncId), CallOk Go.Proofs.Tryd.prog W sg (callF K) f
  | 0, f => fun xs r h => by cases h
  | K + 1, f => by
    cases hf : fnOf f with
    | none =>
      intro xs r h
      have h' : (match fnOf f with | some fn => evalF T sg (callF K) (liveOf f) K fn (sg f) xs | none => extF (callF K) f xs) = some r := h
      rw [hf] at h'
      exact hx (callF K) (callF_ok W hx K) f xs r h'
    | some fn =>
      refine call_ev (live := liveOf f) (k := K) (by kernel_rfl) tabOk (callF_ok W hx K) (fnOf_ok f fn hf).1 (fnOf_ok f fn hf).2 fun xs => ?_
      show (match fnOf f with | some fn => evalF T sg (callF K) (liveOf f) K fn (sg f) xs | none => extF (callF K) f xs) = _
      rw [hf]
theorem ext_ok (W : World) (hG : Glob W) (cf : (f : FuncId) → argL (sg f).ps → Option (retL (sg f).rs)) (hcf : ∀ f, CallOk Go.Proofs.Tryd.prog W sg cf f) (f : FuncId) : CallOk Go.Proofs.Tryd.prog W sg (extF cf) f := by
  cases hi : isExt f with
  | false =>
    intro xs r h
    have e : extF cf f = fun _ => none := by
      show cond (isExt f) _ _ = _
      rw [hi]
      rfl
    rw [e] at h
    cases h
  | true =>
    unfold isExt at hi
    simp only [Bool.or_eq_true] at hi
    rcases hi with ((((((h) | h) | h) | h) | h) | h) | h
    · obtain rfl := Nat.eq_of_beq_eq_true h
      exact ext31_ok cf W hcf
    · obtain rfl := Nat.eq_of_beq_eq_true h
      exact ext38_ok cf W hcf
    · obtain rfl := Nat.eq_of_beq_eq_true h
      exact ext39_ok cf W hcf
    · obtain rfl := Nat.eq_of_beq_eq_true h
      exact ext44_ok cf W hcf hG
    · obtain rfl := Nat.eq_of_beq_eq_true h
      exact ext46_ok cf W hcf
    · obtain rfl := Nat.eq_of_beq_eq_true h
      exact ext47_ok cf W hcf hG
    · obtain rfl := Nat.eq_of_beq_eq_true h
      exact ext50_ok cf W hcf

end Go.Proofs.YtfefjbifdbfmjaaDoor.E
