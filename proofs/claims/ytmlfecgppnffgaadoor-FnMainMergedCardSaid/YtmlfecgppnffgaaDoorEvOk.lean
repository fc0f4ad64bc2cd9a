import Derived.Test.YtmlfecgppnffgaaDoorEvT
import Derived.Test.YtmlfecgppnffgaaDoorEvX
/- Written by a program of this session (wip/tools/mkev.py): the table fits the program, and the functions do what they evaluate to. -/
namespace Go.Proofs.YtmlfecgppnffgaaDoor.E
open Go.Ev
theorem sz2 : SzOk Go.Proofs.Tryd.prog 2 (.int .i64) := szOk_of (by kernel_rfl) (by kernel_rfl) (by kernel_rfl)
theorem sz3 : SzOk Go.Proofs.Tryd.prog 3 (.int .i64) := szOk_of (by kernel_rfl) (by kernel_rfl) (by kernel_rfl)
theorem sz4 : SzOk Go.Proofs.Tryd.prog 4 .bool := szOk_of (by kernel_rfl) (by kernel_rfl) (by kernel_rfl)
theorem sz5 : SzOk Go.Proofs.Tryd.prog 5 (.int .u8) := szOk_of (by kernel_rfl) (by kernel_rfl) (by kernel_rfl)
theorem sz9 : SzOk Go.Proofs.Tryd.prog 9 .str := szOk_of (by kernel_rfl) (by kernel_rfl) (by kernel_rfl)
theorem sz21 : SzOk Go.Proofs.Tryd.prog 21 (.int .i32) := szOk_of (by kernel_rfl) (by kernel_rfl) (by kernel_rfl)
theorem sz36 : SzOk Go.Proofs.Tryd.prog 36 TS0 := szOk_of (by kernel_rfl) (by kernel_rfl) (by kernel_rfl)
theorem sz53 : SzOk Go.Proofs.Tryd.prog 53 TS0 := szOk_of (by kernel_rfl) (by kernel_rfl) (by kernel_rfl)
theorem sz74 : SzOk Go.Proofs.Tryd.prog 74 (.int .i8) := szOk_of (by kernel_rfl) (by kernel_rfl) (by kernel_rfl)
theorem sz76 : SzOk Go.Proofs.Tryd.prog 76 TS2 := szOk_of (by kernel_rfl) (by kernel_rfl) (by kernel_rfl)
theorem sz77 : SzOk Go.Proofs.Tryd.prog 77 .flt := szOk_of (by kernel_rfl) (by kernel_rfl) (by kernel_rfl)
theorem sz79 : SzOk Go.Proofs.Tryd.prog 79 TS1 := szOk_of (by kernel_rfl) (by kernel_rfl) (by kernel_rfl)
theorem sz81 : SzOk Go.Proofs.Tryd.prog 81 (.int .u32) := szOk_of (by kernel_rfl) (by kernel_rfl) (by kernel_rfl)
theorem sz97 : SzOk Go.Proofs.Tryd.prog 97 .nils := szOk_of (by kernel_rfl) (by kernel_rfl) (by kernel_rfl)
theorem un2 : UndOk Go.Proofs.Tryd.prog 2 (.int .i64) := by show _ = _; kernel_rfl
theorem un3 : UndOk Go.Proofs.Tryd.prog 3 (.int .i64) := by show _ = _; kernel_rfl
theorem un4 : UndOk Go.Proofs.Tryd.prog 4 .bool := by show _ = _; kernel_rfl
theorem un5 : UndOk Go.Proofs.Tryd.prog 5 (.int .u8) := by show _ = _; kernel_rfl
theorem un9 : UndOk Go.Proofs.Tryd.prog 9 .str := by show _ = _; kernel_rfl
theorem un21 : UndOk Go.Proofs.Tryd.prog 21 (.int .i32) := by show _ = _; kernel_rfl
theorem un36 : UndOk Go.Proofs.Tryd.prog 36 TS0 := ⟨structOf Go.Proofs.Tryd.prog 36, by kernel_rfl, fieldsOk_of (l := [(0, 2), (1, 9)]) (by kernel_rfl) ⟨⟨rfl, sz2, fun _ => un2⟩, ⟨rfl, sz9, fun _ => un9⟩⟩⟩
theorem un53 : UndOk Go.Proofs.Tryd.prog 53 TS0 := ⟨structOf Go.Proofs.Tryd.prog 53, by kernel_rfl, fieldsOk_of (l := [(0, 2), (1, 9)]) (by kernel_rfl) ⟨⟨rfl, sz2, fun _ => un2⟩, ⟨rfl, sz9, fun _ => un9⟩⟩⟩
theorem un74 : UndOk Go.Proofs.Tryd.prog 74 (.int .i8) := by show _ = _; kernel_rfl
theorem un76 : UndOk Go.Proofs.Tryd.prog 76 TS2 := ⟨structOf Go.Proofs.Tryd.prog 76, by kernel_rfl, fieldsOk_of (l := [(0, 74), (1, 9)]) (by kernel_rfl) ⟨⟨rfl, sz74, fun _ => un74⟩, ⟨rfl, sz9, fun _ => un9⟩⟩⟩
theorem un77 : UndOk Go.Proofs.Tryd.prog 77 .flt := by show _ = _; kernel_rfl
theorem un79 : UndOk Go.Proofs.Tryd.prog 79 TS1 := ⟨structOf Go.Proofs.Tryd.prog 79, by kernel_rfl, fieldsOk_of (l := [(0, 2), (1, 3), (2, 3), (3, 77), (4, 3), (5, 3), (6, 77)]) (by kernel_rfl) ⟨⟨rfl, sz2, fun _ => un2⟩, ⟨⟨rfl, sz3, fun _ => un3⟩, ⟨⟨rfl, sz3, fun _ => un3⟩, ⟨⟨rfl, sz77, fun _ => un77⟩, ⟨⟨rfl, sz3, fun _ => un3⟩, ⟨⟨rfl, sz3, fun _ => un3⟩, ⟨rfl, sz77, fun _ => un77⟩⟩⟩⟩⟩⟩⟩⟩
theorem un81 : UndOk Go.Proofs.Tryd.prog 81 (.int .u32) := by show _ = _; kernel_rfl
theorem un97 : UndOk Go.Proofs.Tryd.prog 97 .nils := ⟨42, by kernel_rfl⟩
theorem eq36 : EqOk Go.Proofs.Tryd.prog 36 := eqOk_of (by kernel_rfl) (by kernel_rfl) (by kernel_rfl)
theorem tab_ty (n : TypeId) (t : Ty) (h : T.ty n = some t) : SzOk Go.Proofs.Tryd.prog n t ∧ UndOk Go.Proofs.Tryd.prog n t := by
  unfold T at h
  dsimp only at h
  split at h
  · cases h; exact ⟨sz2, un2⟩
  · cases h; exact ⟨sz3, un3⟩
  · cases h; exact ⟨sz4, un4⟩
  · cases h; exact ⟨sz5, un5⟩
  · cases h; exact ⟨sz9, un9⟩
  · cases h; exact ⟨sz21, un21⟩
  · cases h; exact ⟨sz36, un36⟩
  · cases h; exact ⟨sz53, un53⟩
  · cases h; exact ⟨sz74, un74⟩
  · cases h; exact ⟨sz76, un76⟩
  · cases h; exact ⟨sz77, un77⟩
  · cases h; exact ⟨sz79, un79⟩
  · cases h; exact ⟨sz81, un81⟩
  · cases h; exact ⟨sz97, un97⟩
  · cases h
theorem tab_sl (n : TypeId) (t : Ty) (e : TypeId) (h : T.sl n = some (t, e)) : Go.Proofs.Tryd.prog.underlying n = some (.slice e) ∧ SzOk Go.Proofs.Tryd.prog e t ∧ UndOk Go.Proofs.Tryd.prog e t := by
  unfold T at h
  dsimp only at h
  split at h
  · cases h; exact ⟨by kernel_rfl, sz36, un36⟩
  · cases h; exact ⟨by kernel_rfl, sz53, un53⟩
  · cases h; exact ⟨by kernel_rfl, sz21, un21⟩
  · cases h; exact ⟨by kernel_rfl, sz9, un9⟩
  · cases h; exact ⟨by kernel_rfl, sz76, un76⟩
  · cases h; exact ⟨by kernel_rfl, sz3, un3⟩
  · cases h
theorem tab_eq (n : TypeId) (h : T.eq n = true) : EqOk Go.Proofs.Tryd.prog n := by
  unfold T at h
  dsimp only at h
  split at h
  · exact eq36
  · cases h
theorem Tc_eq : Tc = T := by
  have h1 : (fun x y : Int => decide (x < y)) = ltI := by funext x y; exact (ltI_eq x y).symm
  have h2 : (fun x y : Int => decide (x ≤ y)) = leI := by funext x y; exact (leI_eq x y).symm
  have h3 : (fun x y : Int => decide (x = y)) = Go.Ev.eqI := by funext x y; exact (eqI_eq x y).symm
  have h4 : (fun x y : Nat => Nat.ble x y) = nleI := by
    funext x y
    rw [nleI_eq]
    cases h : Nat.ble x y with
    | true => exact (decide_eq_true (Nat.le_of_ble_eq_true h)).symm
    | false => exact (decide_eq_false (fun g => by rw [Nat.ble_eq_true_of_le g] at h; cases h)).symm
  have h5 : (fun x y : ByteArray => x.data.toList == y.data.toList) = Go.Ev.eqS := by funext x y; rw [eqS_eq, ByteArray.toList_eq, ByteArray.toList_eq]
  unfold Tc T
  simp only [h1, h2, h3, h4, h5]
theorem tabOk : TabOk Go.Proofs.Tryd.prog T := ⟨tab_ty, tab_sl, tab_eq, ltI_eq, leI_eq, eqI_eq, nleI_eq, eqS_eq, i2fI_eq, f2iI_eq, foI_eq, faI_eq⟩
theorem fn4 : Go.Proofs.Tryd.prog.funcs[4]? = some Go.Proofs.Tryd.f4 ∧ fnOk T (sg 4) Go.Proofs.Tryd.f4 = true := ⟨Go.Proofs.Tryd.func4, by kernel_rfl⟩
theorem fn5 : Go.Proofs.Tryd.prog.funcs[5]? = some Go.Proofs.Tryd.f5 ∧ fnOk T (sg 5) Go.Proofs.Tryd.f5 = true := ⟨Go.Proofs.Tryd.func5, by kernel_rfl⟩
theorem fn6 : Go.Proofs.Tryd.prog.funcs[6]? = some Go.Proofs.Tryd.f6 ∧ fnOk T (sg 6) Go.Proofs.Tryd.f6 = true := ⟨Go.Proofs.Tryd.func6, by kernel_rfl⟩
theorem fn7 : Go.Proofs.Tryd.prog.funcs[7]? = some Go.Proofs.Tryd.f7 ∧ fnOk T (sg 7) Go.Proofs.Tryd.f7 = true := ⟨Go.Proofs.Tryd.func7, by kernel_rfl⟩
theorem fn8 : Go.Proofs.Tryd.prog.funcs[8]? = some Go.Proofs.Tryd.f8 ∧ fnOk T (sg 8) Go.Proofs.Tryd.f8 = true := ⟨Go.Proofs.Tryd.func8, by kernel_rfl⟩
theorem fn11 : Go.Proofs.Tryd.prog.funcs[11]? = some Go.Proofs.Tryd.f11 ∧ fnOk T (sg 11) Go.Proofs.Tryd.f11 = true := ⟨Go.Proofs.Tryd.func11, by kernel_rfl⟩
theorem fn13 : Go.Proofs.Tryd.prog.funcs[13]? = some Go.Proofs.Tryd.f13 ∧ fnOk T (sg 13) Go.Proofs.Tryd.f13 = true := ⟨Go.Proofs.Tryd.func13, by kernel_rfl⟩
theorem fn14 : Go.Proofs.Tryd.prog.funcs[14]? = some Go.Proofs.Tryd.f14 ∧ fnOk T (sg 14) Go.Proofs.Tryd.f14 = true := ⟨Go.Proofs.Tryd.func14, by kernel_rfl⟩
theorem fn15 : Go.Proofs.Tryd.prog.funcs[15]? = some Go.Proofs.Tryd.f15 ∧ fnOk T (sg 15) Go.Proofs.Tryd.f15 = true := ⟨Go.Proofs.Tryd.func15, by kernel_rfl⟩
theorem fn16 : Go.Proofs.Tryd.prog.funcs[16]? = some Go.Proofs.Tryd.f16 ∧ fnOk T (sg 16) Go.Proofs.Tryd.f16 = true := ⟨Go.Proofs.Tryd.func16, by kernel_rfl⟩
theorem fn17 : Go.Proofs.Tryd.prog.funcs[17]? = some Go.Proofs.Tryd.f17 ∧ fnOk T (sg 17) Go.Proofs.Tryd.f17 = true := ⟨Go.Proofs.Tryd.func17, by kernel_rfl⟩
theorem fn18 : Go.Proofs.Tryd.prog.funcs[18]? = some Go.Proofs.Tryd.f18 ∧ fnOk T (sg 18) Go.Proofs.Tryd.f18 = true := ⟨Go.Proofs.Tryd.func18, by kernel_rfl⟩
theorem fn19 : Go.Proofs.Tryd.prog.funcs[19]? = some Go.Proofs.Tryd.f19 ∧ fnOk T (sg 19) Go.Proofs.Tryd.f19 = true := ⟨Go.Proofs.Tryd.func19, by kernel_rfl⟩
theorem fn20 : Go.Proofs.Tryd.prog.funcs[20]? = some Go.Proofs.Tryd.f20 ∧ fnOk T (sg 20) Go.Proofs.Tryd.f20 = true := ⟨Go.Proofs.Tryd.func20, by kernel_rfl⟩
theorem fn21 : Go.Proofs.Tryd.prog.funcs[21]? = some Go.Proofs.Tryd.f21 ∧ fnOk T (sg 21) Go.Proofs.Tryd.f21 = true := ⟨Go.Proofs.Tryd.func21, by kernel_rfl⟩
theorem fn22 : Go.Proofs.Tryd.prog.funcs[22]? = some Go.Proofs.Tryd.f22 ∧ fnOk T (sg 22) Go.Proofs.Tryd.f22 = true := ⟨Go.Proofs.Tryd.func22, by kernel_rfl⟩
theorem fn23 : Go.Proofs.Tryd.prog.funcs[23]? = some Go.Proofs.Tryd.f23 ∧ fnOk T (sg 23) Go.Proofs.Tryd.f23 = true := ⟨Go.Proofs.Tryd.func23, by kernel_rfl⟩
theorem fn27 : Go.Proofs.Tryd.prog.funcs[27]? = some Go.Proofs.Tryd.f27 ∧ fnOk T (sg 27) Go.Proofs.Tryd.f27 = true := ⟨Go.Proofs.Tryd.func27, by kernel_rfl⟩
theorem fn30 : Go.Proofs.Tryd.prog.funcs[30]? = some Go.Proofs.Tryd.f30 ∧ fnOk T (sg 30) Go.Proofs.Tryd.f30 = true := ⟨Go.Proofs.Tryd.func30, by kernel_rfl⟩
theorem fn31 : Go.Proofs.Tryd.prog.funcs[31]? = some Go.Proofs.Tryd.f31 ∧ fnOk T (sg 31) Go.Proofs.Tryd.f31 = true := ⟨Go.Proofs.Tryd.func31, by kernel_rfl⟩
theorem fn32 : Go.Proofs.Tryd.prog.funcs[32]? = some Go.Proofs.Tryd.f32 ∧ fnOk T (sg 32) Go.Proofs.Tryd.f32 = true := ⟨Go.Proofs.Tryd.func32, by kernel_rfl⟩
theorem fn34 : Go.Proofs.Tryd.prog.funcs[34]? = some Go.Proofs.Tryd.f34 ∧ fnOk T (sg 34) Go.Proofs.Tryd.f34 = true := ⟨Go.Proofs.Tryd.func34, by kernel_rfl⟩
theorem fn35 : Go.Proofs.Tryd.prog.funcs[35]? = some Go.Proofs.Tryd.f35 ∧ fnOk T (sg 35) Go.Proofs.Tryd.f35 = true := ⟨Go.Proofs.Tryd.func35, by kernel_rfl⟩
theorem fn36 : Go.Proofs.Tryd.prog.funcs[36]? = some Go.Proofs.Tryd.f36 ∧ fnOk T (sg 36) Go.Proofs.Tryd.f36 = true := ⟨Go.Proofs.Tryd.func36, by kernel_rfl⟩
theorem fn37 : Go.Proofs.Tryd.prog.funcs[37]? = some Go.Proofs.Tryd.f37 ∧ fnOk T (sg 37) Go.Proofs.Tryd.f37 = true := ⟨Go.Proofs.Tryd.func37, by kernel_rfl⟩
theorem fn38 : Go.Proofs.Tryd.prog.funcs[38]? = some Go.Proofs.Tryd.f38 ∧ fnOk T (sg 38) Go.Proofs.Tryd.f38 = true := ⟨Go.Proofs.Tryd.func38, by kernel_rfl⟩
theorem fn39 : Go.Proofs.Tryd.prog.funcs[39]? = some Go.Proofs.Tryd.f39 ∧ fnOk T (sg 39) Go.Proofs.Tryd.f39 = true := ⟨Go.Proofs.Tryd.func39, by kernel_rfl⟩
theorem fn40 : Go.Proofs.Tryd.prog.funcs[40]? = some Go.Proofs.Tryd.f40 ∧ fnOk T (sg 40) Go.Proofs.Tryd.f40 = true := ⟨Go.Proofs.Tryd.func40, by kernel_rfl⟩
theorem fn42 : Go.Proofs.Tryd.prog.funcs[42]? = some Go.Proofs.Tryd.f42 ∧ fnOk T (sg 42) Go.Proofs.Tryd.f42 = true := ⟨Go.Proofs.Tryd.func42, by kernel_rfl⟩
theorem fn44 : Go.Proofs.Tryd.prog.funcs[44]? = some Go.Proofs.Tryd.f44 ∧ fnOk T (sg 44) Go.Proofs.Tryd.f44 = true := ⟨Go.Proofs.Tryd.func44, by kernel_rfl⟩
theorem fn46 : Go.Proofs.Tryd.prog.funcs[46]? = some Go.Proofs.Tryd.f46 ∧ fnOk T (sg 46) Go.Proofs.Tryd.f46 = true := ⟨Go.Proofs.Tryd.func46, by kernel_rfl⟩
theorem fn47 : Go.Proofs.Tryd.prog.funcs[47]? = some Go.Proofs.Tryd.f47 ∧ fnOk T (sg 47) Go.Proofs.Tryd.f47 = true := ⟨Go.Proofs.Tryd.func47, by kernel_rfl⟩
theorem fn48 : Go.Proofs.Tryd.prog.funcs[48]? = some Go.Proofs.Tryd.f48 ∧ fnOk T (sg 48) Go.Proofs.Tryd.f48 = true := ⟨Go.Proofs.Tryd.func48, by kernel_rfl⟩
theorem fn49 : Go.Proofs.Tryd.prog.funcs[49]? = some Go.Proofs.Tryd.f49 ∧ fnOk T (sg 49) Go.Proofs.Tryd.f49 = true := ⟨Go.Proofs.Tryd.func49, by kernel_rfl⟩
theorem fn51 : Go.Proofs.Tryd.prog.funcs[51]? = some Go.Proofs.Tryd.f51 ∧ fnOk T (sg 51) Go.Proofs.Tryd.f51 = true := ⟨Go.Proofs.Tryd.func51, by kernel_rfl⟩
theorem fn52 : Go.Proofs.Tryd.prog.funcs[52]? = some Go.Proofs.Tryd.f52 ∧ fnOk T (sg 52) Go.Proofs.Tryd.f52 = true := ⟨Go.Proofs.Tryd.func52, by kernel_rfl⟩
theorem fn53 : Go.Proofs.Tryd.prog.funcs[53]? = some Go.Proofs.Tryd.f53 ∧ fnOk T (sg 53) Go.Proofs.Tryd.f53 = true := ⟨Go.Proofs.Tryd.func53, by kernel_rfl⟩
theorem fn56 : Go.Proofs.Tryd.prog.funcs[56]? = some Go.Proofs.Tryd.f56 ∧ fnOk T (sg 56) Go.Proofs.Tryd.f56 = true := ⟨Go.Proofs.Tryd.func56, by kernel_rfl⟩
theorem fn57 : Go.Proofs.Tryd.prog.funcs[57]? = some Go.Proofs.Tryd.f57 ∧ fnOk T (sg 57) Go.Proofs.Tryd.f57 = true := ⟨Go.Proofs.Tryd.func57, by kernel_rfl⟩
theorem fn58 : Go.Proofs.Tryd.prog.funcs[58]? = some Go.Proofs.Tryd.f58 ∧ fnOk T (sg 58) Go.Proofs.Tryd.f58 = true := ⟨Go.Proofs.Tryd.func58, by kernel_rfl⟩
theorem fn59 : Go.Proofs.Tryd.prog.funcs[59]? = some Go.Proofs.Tryd.f59 ∧ fnOk T (sg 59) Go.Proofs.Tryd.f59 = true := ⟨Go.Proofs.Tryd.func59, by kernel_rfl⟩
theorem fn60 : Go.Proofs.Tryd.prog.funcs[60]? = some Go.Proofs.Tryd.f60 ∧ fnOk T (sg 60) Go.Proofs.Tryd.f60 = true := ⟨Go.Proofs.Tryd.func60, by kernel_rfl⟩
theorem fn61 : Go.Proofs.Tryd.prog.funcs[61]? = some Go.Proofs.Tryd.f61 ∧ fnOk T (sg 61) Go.Proofs.Tryd.f61 = true := ⟨Go.Proofs.Tryd.func61, by kernel_rfl⟩
theorem fn62 : Go.Proofs.Tryd.prog.funcs[62]? = some Go.Proofs.Tryd.f62 ∧ fnOk T (sg 62) Go.Proofs.Tryd.f62 = true := ⟨Go.Proofs.Tryd.func62, by kernel_rfl⟩
theorem fn63 : Go.Proofs.Tryd.prog.funcs[63]? = some Go.Proofs.Tryd.f63 ∧ fnOk T (sg 63) Go.Proofs.Tryd.f63 = true := ⟨Go.Proofs.Tryd.func63, by kernel_rfl⟩
theorem fn67 : Go.Proofs.Tryd.prog.funcs[67]? = some Go.Proofs.Tryd.f67 ∧ fnOk T (sg 67) Go.Proofs.Tryd.f67 = true := ⟨Go.Proofs.Tryd.func67, by kernel_rfl⟩
theorem fn68 : Go.Proofs.Tryd.prog.funcs[68]? = some Go.Proofs.Tryd.f68 ∧ fnOk T (sg 68) Go.Proofs.Tryd.f68 = true := ⟨Go.Proofs.Tryd.func68, by kernel_rfl⟩
theorem fn69 : Go.Proofs.Tryd.prog.funcs[69]? = some Go.Proofs.Tryd.f69 ∧ fnOk T (sg 69) Go.Proofs.Tryd.f69 = true := ⟨Go.Proofs.Tryd.func69, by kernel_rfl⟩
theorem fn70 : Go.Proofs.Tryd.prog.funcs[70]? = some Go.Proofs.Tryd.f70 ∧ fnOk T (sg 70) Go.Proofs.Tryd.f70 = true := ⟨Go.Proofs.Tryd.func70, by kernel_rfl⟩
theorem fn71 : Go.Proofs.Tryd.prog.funcs[71]? = some Go.Proofs.Tryd.f71 ∧ fnOk T (sg 71) Go.Proofs.Tryd.f71 = true := ⟨Go.Proofs.Tryd.func71, by kernel_rfl⟩
theorem fn72 : Go.Proofs.Tryd.prog.funcs[72]? = some Go.Proofs.Tryd.f72 ∧ fnOk T (sg 72) Go.Proofs.Tryd.f72 = true := ⟨Go.Proofs.Tryd.func72, by kernel_rfl⟩
theorem fn76 : Go.Proofs.Tryd.prog.funcs[76]? = some Go.Proofs.Tryd.f76 ∧ fnOk T (sg 76) Go.Proofs.Tryd.f76 = true := ⟨Go.Proofs.Tryd.func76, by kernel_rfl⟩
theorem fn77 : Go.Proofs.Tryd.prog.funcs[77]? = some Go.Proofs.Tryd.f77 ∧ fnOk T (sg 77) Go.Proofs.Tryd.f77 = true := ⟨Go.Proofs.Tryd.func77, by kernel_rfl⟩
theorem fn78 : Go.Proofs.Tryd.prog.funcs[78]? = some Go.Proofs.Tryd.f78 ∧ fnOk T (sg 78) Go.Proofs.Tryd.f78 = true := ⟨Go.Proofs.Tryd.func78, by kernel_rfl⟩
theorem fn79 : Go.Proofs.Tryd.prog.funcs[79]? = some Go.Proofs.Tryd.f79 ∧ fnOk T (sg 79) Go.Proofs.Tryd.f79 = true := ⟨Go.Proofs.Tryd.func79, by kernel_rfl⟩
theorem fn80 : Go.Proofs.Tryd.prog.funcs[80]? = some Go.Proofs.Tryd.f80 ∧ fnOk T (sg 80) Go.Proofs.Tryd.f80 = true := ⟨Go.Proofs.Tryd.func80, by kernel_rfl⟩
theorem fn81 : Go.Proofs.Tryd.prog.funcs[81]? = some Go.Proofs.Tryd.f81 ∧ fnOk T (sg 81) Go.Proofs.Tryd.f81 = true := ⟨Go.Proofs.Tryd.func81, by kernel_rfl⟩
theorem fn84 : Go.Proofs.Tryd.prog.funcs[84]? = some Go.Proofs.Tryd.f84 ∧ fnOk T (sg 84) Go.Proofs.Tryd.f84 = true := ⟨Go.Proofs.Tryd.func84, by kernel_rfl⟩
theorem fn86 : Go.Proofs.Tryd.prog.funcs[86]? = some Go.Proofs.Tryd.f86 ∧ fnOk T (sg 86) Go.Proofs.Tryd.f86 = true := ⟨Go.Proofs.Tryd.func86, by kernel_rfl⟩
theorem fn87 : Go.Proofs.Tryd.prog.funcs[87]? = some Go.Proofs.Tryd.f87 ∧ fnOk T (sg 87) Go.Proofs.Tryd.f87 = true := ⟨Go.Proofs.Tryd.func87, by kernel_rfl⟩
theorem fn91 : Go.Proofs.Tryd.prog.funcs[91]? = some Go.Proofs.Tryd.f91 ∧ fnOk T (sg 91) Go.Proofs.Tryd.f91 = true := ⟨Go.Proofs.Tryd.func91, by kernel_rfl⟩
theorem fn92 : Go.Proofs.Tryd.prog.funcs[92]? = some Go.Proofs.Tryd.f92 ∧ fnOk T (sg 92) Go.Proofs.Tryd.f92 = true := ⟨Go.Proofs.Tryd.func92, by kernel_rfl⟩
theorem fn93 : Go.Proofs.Tryd.prog.funcs[93]? = some Go.Proofs.Tryd.f93 ∧ fnOk T (sg 93) Go.Proofs.Tryd.f93 = true := ⟨Go.Proofs.Tryd.func93, by kernel_rfl⟩
theorem fn100 : Go.Proofs.Tryd.prog.funcs[100]? = some Go.Proofs.Tryd.f100 ∧ fnOk T (sg 100) Go.Proofs.Tryd.f100 = true := ⟨Go.Proofs.Tryd.func100, by kernel_rfl⟩
theorem fn101 : Go.Proofs.Tryd.prog.funcs[101]? = some Go.Proofs.Tryd.f101 ∧ fnOk T (sg 101) Go.Proofs.Tryd.f101 = true := ⟨Go.Proofs.Tryd.func101, by kernel_rfl⟩
theorem fn102 : Go.Proofs.Tryd.prog.funcs[102]? = some Go.Proofs.Tryd.f102 ∧ fnOk T (sg 102) Go.Proofs.Tryd.f102 = true := ⟨Go.Proofs.Tryd.func102, by kernel_rfl⟩
theorem fn103 : Go.Proofs.Tryd.prog.funcs[103]? = some Go.Proofs.Tryd.f103 ∧ fnOk T (sg 103) Go.Proofs.Tryd.f103 = true := ⟨Go.Proofs.Tryd.func103, by kernel_rfl⟩
theorem fn104 : Go.Proofs.Tryd.prog.funcs[104]? = some Go.Proofs.Tryd.f104 ∧ fnOk T (sg 104) Go.Proofs.Tryd.f104 = true := ⟨Go.Proofs.Tryd.func104, by kernel_rfl⟩
theorem fn105 : Go.Proofs.Tryd.prog.funcs[105]? = some Go.Proofs.Tryd.f105 ∧ fnOk T (sg 105) Go.Proofs.Tryd.f105 = true := ⟨Go.Proofs.Tryd.func105, by kernel_rfl⟩
theorem fn111 : Go.Proofs.Tryd.prog.funcs[111]? = some Go.Proofs.Tryd.f111 ∧ fnOk T (sg 111) Go.Proofs.Tryd.f111 = true := ⟨Go.Proofs.Tryd.func111, by kernel_rfl⟩
theorem fnOf_ok (f : FuncId) (fn : Func) (h : fnOf f = some fn) : Go.Proofs.Tryd.prog.funcs[f]? = some fn ∧ fnOk T (sg f) fn = true := by
  unfold fnOf at h
  split at h
  · cases h; exact fn4
  · cases h; exact fn5
  · cases h; exact fn6
  · cases h; exact fn7
  · cases h; exact fn8
  · cases h; exact fn11
  · cases h; exact fn13
  · cases h; exact fn14
  · cases h; exact fn15
  · cases h; exact fn16
  · cases h; exact fn17
  · cases h; exact fn18
  · cases h; exact fn19
  · cases h; exact fn20
  · cases h; exact fn21
  · cases h; exact fn22
  · cases h; exact fn23
  · cases h; exact fn27
  · cases h; exact fn30
  · cases h; exact fn31
  · cases h; exact fn32
  · cases h; exact fn34
  · cases h; exact fn35
  · cases h; exact fn36
  · cases h; exact fn37
  · cases h; exact fn38
  · cases h; exact fn39
  · cases h; exact fn40
  · cases h; exact fn42
  · cases h; exact fn44
  · cases h; exact fn46
  · cases h; exact fn47
  · cases h; exact fn48
  · cases h; exact fn49
  · cases h; exact fn51
  · cases h; exact fn52
  · cases h; exact fn53
  · cases h; exact fn56
  · cases h; exact fn57
  · cases h; exact fn58
  · cases h; exact fn59
  · cases h; exact fn60
  · cases h; exact fn61
  · cases h; exact fn62
  · cases h; exact fn63
  · cases h; exact fn67
  · cases h; exact fn68
  · cases h; exact fn69
  · cases h; exact fn70
  · cases h; exact fn71
  · cases h; exact fn72
  · cases h; exact fn76
  · cases h; exact fn77
  · cases h; exact fn78
  · cases h; exact fn79
  · cases h; exact fn80
  · cases h; exact fn81
  · cases h; exact fn84
  · cases h; exact fn86
  · cases h; exact fn87
  · cases h; exact fn91
  · cases h; exact fn92
  · cases h; exact fn93
  · cases h; exact fn100
  · cases h; exact fn101
  · cases h; exact fn102
  · cases h; exact fn103
  · cases h; exact fn104
  · cases h; exact fn105
  · cases h; exact fn111
  · cases h
theorem callF_ok (W : World) (hx : ∀ f, CallOk Go.Proofs.Tryd.prog W sg extF f) : ∀ (K : Nat) (f : FuncId), CallOk Go.Proofs.Tryd.prog W sg (callF K) f
  | 0, f => fun xs r h => by cases h
  | K + 1, f => by
    cases hf : fnOf f with
    | none =>
      intro xs r h
      have h' : (match fnOf f with | some fn => evalF T sg (callF K) (liveOf f) K fn (sg f) xs | none => extF f xs) = some r := h
      rw [hf] at h'
      exact hx f xs r h'
    | some fn =>
      refine call_ev (live := liveOf f) (k := K) (by kernel_rfl) tabOk (callF_ok W hx K) (fnOf_ok f fn hf).1 (fnOf_ok f fn hf).2 fun xs => ?_
      show (match fnOf f with | some fn => evalF T sg (callF K) (liveOf f) K fn (sg f) xs | none => extF f xs) = _
      rw [hf]
theorem ext_ok (W : World) (hG : Glob W) (f : FuncId) : CallOk Go.Proofs.Tryd.prog W sg extF f := by
  cases hi : isExt f with
  | false =>
    intro xs r h
    have e : extF f = fun _ => none := by
      show cond (isExt f) _ _ = _
      rw [hi]
      rfl
    rw [e] at h
    cases h
  | true =>
    unfold isExt at hi
    simp only [Bool.or_eq_true] at hi
    rcases hi with (((h) | h) | h) | h
    · obtain rfl := Nat.eq_of_beq_eq_true h
      exact ext24_ok W
    · obtain rfl := Nat.eq_of_beq_eq_true h
      exact ext33_ok W hG
    · obtain rfl := Nat.eq_of_beq_eq_true h
      exact ext85_ok W
    · obtain rfl := Nat.eq_of_beq_eq_true h
      exact ext94_ok W

end Go.Proofs.YtmlfecgppnffgaaDoor.E
