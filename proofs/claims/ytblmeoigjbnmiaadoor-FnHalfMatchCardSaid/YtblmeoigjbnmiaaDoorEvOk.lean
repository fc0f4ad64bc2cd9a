import Derived.Test.YtblmeoigjbnmiaaDoorEvT
import Derived.Test.YtblmeoigjbnmiaaDoorEvX
/- Written by a program of this session (wip/ev4dev): the table fits the program, and the functions do what they evaluate to. -/
set_option linter.unusedVariables false
namespace Go.Proofs.YtblmeoigjbnmiaaDoor.E
open Go.Ev
theorem sz2 : SzOk Go.Proofs.Tryd.prog 2 (.int .i64) := szOk_of (by kernel_rfl) (by kernel_rfl) (by kernel_rfl)
theorem sz3 : SzOk Go.Proofs.Tryd.prog 3 (.int .i64) := szOk_of (by kernel_rfl) (by kernel_rfl) (by kernel_rfl)
theorem sz4 : SzOk Go.Proofs.Tryd.prog 4 .bool := szOk_of (by kernel_rfl) (by kernel_rfl) (by kernel_rfl)
theorem sz5 : SzOk Go.Proofs.Tryd.prog 5 (.int .u8) := szOk_of (by kernel_rfl) (by kernel_rfl) (by kernel_rfl)
theorem sz9 : SzOk Go.Proofs.Tryd.prog 9 .str := szOk_of (by kernel_rfl) (by kernel_rfl) (by kernel_rfl)
theorem sz21 : SzOk Go.Proofs.Tryd.prog 21 (.int .i32) := szOk_of (by kernel_rfl) (by kernel_rfl) (by kernel_rfl)
theorem sz42 : SzOk Go.Proofs.Tryd.prog 42 TS2 := szOk_of (by kernel_rfl) (by kernel_rfl) (by kernel_rfl)
theorem sz46 : SzOk Go.Proofs.Tryd.prog 46 TS2 := szOk_of (by kernel_rfl) (by kernel_rfl) (by kernel_rfl)
theorem sz47 : SzOk Go.Proofs.Tryd.prog 47 .flt := szOk_of (by kernel_rfl) (by kernel_rfl) (by kernel_rfl)
theorem sz49 : SzOk Go.Proofs.Tryd.prog 49 TS0 := szOk_of (by kernel_rfl) (by kernel_rfl) (by kernel_rfl)
theorem sz58 : SzOk Go.Proofs.Tryd.prog 58 TS3 := szOk_of (by kernel_rfl) (by kernel_rfl) (by kernel_rfl)
theorem sz64 : SzOk Go.Proofs.Tryd.prog 64 (.int .i8) := szOk_of (by kernel_rfl) (by kernel_rfl) (by kernel_rfl)
theorem sz66 : SzOk Go.Proofs.Tryd.prog 66 TS1 := szOk_of (by kernel_rfl) (by kernel_rfl) (by kernel_rfl)
theorem un2 : UndOk Go.Proofs.Tryd.prog 2 (.int .i64) := by show _ = _; kernel_rfl
theorem un3 : UndOk Go.Proofs.Tryd.prog 3 (.int .i64) := by show _ = _; kernel_rfl
theorem un4 : UndOk Go.Proofs.Tryd.prog 4 .bool := by show _ = _; kernel_rfl
theorem un5 : UndOk Go.Proofs.Tryd.prog 5 (.int .u8) := by show _ = _; kernel_rfl
theorem un9 : UndOk Go.Proofs.Tryd.prog 9 .str := by show _ = _; kernel_rfl
theorem un21 : UndOk Go.Proofs.Tryd.prog 21 (.int .i32) := by show _ = _; kernel_rfl
theorem un42 : UndOk Go.Proofs.Tryd.prog 42 TS2 := ⟨structOf Go.Proofs.Tryd.prog 42, by kernel_rfl, fieldsOk_of (l := [(0, 2), (1, 9)]) (by kernel_rfl) ⟨⟨rfl, sz2, fun _ => un2⟩, ⟨rfl, sz9, fun _ => un9⟩⟩⟩
theorem un46 : UndOk Go.Proofs.Tryd.prog 46 TS2 := ⟨structOf Go.Proofs.Tryd.prog 46, by kernel_rfl, fieldsOk_of (l := [(0, 2), (1, 9)]) (by kernel_rfl) ⟨⟨rfl, sz2, fun _ => un2⟩, ⟨rfl, sz9, fun _ => un9⟩⟩⟩
theorem un47 : UndOk Go.Proofs.Tryd.prog 47 .flt := by show _ = _; kernel_rfl
theorem un49 : UndOk Go.Proofs.Tryd.prog 49 TS0 := ⟨structOf Go.Proofs.Tryd.prog 49, by kernel_rfl, fieldsOk_of (l := [(0, 2), (1, 3), (2, 3), (3, 47), (4, 3), (5, 3), (6, 47)]) (by kernel_rfl) ⟨⟨rfl, sz2, fun _ => un2⟩, ⟨⟨rfl, sz3, fun _ => un3⟩, ⟨⟨rfl, sz3, fun _ => un3⟩, ⟨⟨rfl, sz47, fun _ => un47⟩, ⟨⟨rfl, sz3, fun _ => un3⟩, ⟨⟨rfl, sz3, fun _ => un3⟩, ⟨rfl, sz47, fun _ => un47⟩⟩⟩⟩⟩⟩⟩⟩
theorem un58 : UndOk Go.Proofs.Tryd.prog 58 TS3 := ⟨structOf Go.Proofs.Tryd.prog 58, by kernel_rfl, fieldsOk_of (l := [(0, 5), (1, 5)]) (by kernel_rfl) ⟨⟨rfl, sz5, fun _ => un5⟩, ⟨rfl, sz5, fun _ => un5⟩⟩⟩
theorem un64 : UndOk Go.Proofs.Tryd.prog 64 (.int .i8) := by show _ = _; kernel_rfl
theorem un66 : UndOk Go.Proofs.Tryd.prog 66 TS1 := ⟨structOf Go.Proofs.Tryd.prog 66, by kernel_rfl, fieldsOk_of (l := [(0, 64), (1, 9)]) (by kernel_rfl) ⟨⟨rfl, sz64, fun _ => un64⟩, ⟨rfl, sz9, fun _ => un9⟩⟩⟩
theorem eq42 : EqOk Go.Proofs.Tryd.prog 42 := eqOk_of (by kernel_rfl) (by kernel_rfl) (by kernel_rfl)
theorem eq46 : EqOk Go.Proofs.Tryd.prog 46 := eqOk_of (by kernel_rfl) (by kernel_rfl) (by kernel_rfl)
theorem tab_ty (n : TypeId) (t : Ty) (h : T.ty n = some t) : SzOk Go.Proofs.Tryd.prog n t ∧ UndOk Go.Proofs.Tryd.prog n t := by
  unfold T at h
  dsimp only at h
  split at h
  · cases h; exact ⟨sz2, un2⟩
  · cases h; exact ⟨sz3, un3⟩
  · cases h; exact ⟨sz4, un4⟩
  · cases h; exact ⟨sz5, un5⟩
  · cases h; exact ⟨sz9, un9⟩
  · cases h; exact ⟨sz21, un21⟩
  · cases h; exact ⟨sz42, un42⟩
  · cases h; exact ⟨sz46, un46⟩
  · cases h; exact ⟨sz47, un47⟩
  · cases h; exact ⟨sz49, un49⟩
  · cases h; exact ⟨sz58, un58⟩
  · cases h; exact ⟨sz64, un64⟩
  · cases h; exact ⟨sz66, un66⟩
  · cases h
theorem tab_sl (n : TypeId) (t : Ty) (e : TypeId) (h : T.sl n = some (t, e)) : Go.Proofs.Tryd.prog.underlying n = some (.slice e) ∧ SzOk Go.Proofs.Tryd.prog e t ∧ UndOk Go.Proofs.Tryd.prog e t := by
  unfold T at h
  dsimp only at h
  split at h
  · cases h; exact ⟨by kernel_rfl, sz9, un9⟩
  · cases h; exact ⟨by kernel_rfl, sz42, un42⟩
  · cases h; exact ⟨by kernel_rfl, sz46, un46⟩
  · cases h; exact ⟨by kernel_rfl, sz66, un66⟩
  · cases h; exact ⟨by kernel_rfl, sz21, un21⟩
  · cases h
theorem tab_eq (n : TypeId) (h : T.eq n = true) : EqOk Go.Proofs.Tryd.prog n := by
  unfold T at h
  dsimp only at h
  split at h
  · exact eq42
  · exact eq46
  · cases h
theorem Tc_eq : Tc = T := by
  have h1 : (fun x y : Int => decide (x < y)) = ltI := by funext x y; exact (ltI_eq x y).symm
  have h2 : (fun x y : Int => decide (x ≤ y)) = leI := by funext x y; exact (leI_eq x y).symm
  have h3 : (fun x y : Int => decide (x = y)) = Go.Ev.eqI := by funext x y; exact (eqI_eq x y).symm
  have h4 : (fun x y : Nat => Nat.ble x y) = nleI := by
    funext x y
    rw [nleI_eq]
    cases h : Nat.ble x y with
    | true => exact (decide_eq_true (Nat.le_of_ble_eq_true h)).symm
    | false => exact (decide_eq_false (fun g => by rw [Nat.ble_eq_true_of_le g] at h; cases h)).symm
  have h5 : (fun x y : ByteArray => x.data.toList == y.data.toList) = Go.Ev.eqS := by funext x y; rw [eqS_eq, ByteArray.toList_eq, ByteArray.toList_eq]
  unfold Tc T
  simp only [h1, h2, h3, h4, h5]
theorem sh2 : SzH Go.Proofs.Tryd.prog 2 (.p (.int .i64)) := szH_of (by kernel_rfl) (by kernel_rfl) (by kernel_rfl)
theorem sh3 : SzH Go.Proofs.Tryd.prog 3 (.p (.int .i64)) := szH_of (by kernel_rfl) (by kernel_rfl) (by kernel_rfl)
theorem sh4 : SzH Go.Proofs.Tryd.prog 4 (.p .bool) := szH_of (by kernel_rfl) (by kernel_rfl) (by kernel_rfl)
theorem sh5 : SzH Go.Proofs.Tryd.prog 5 (.p (.int .u8)) := szH_of (by kernel_rfl) (by kernel_rfl) (by kernel_rfl)
theorem sh9 : SzH Go.Proofs.Tryd.prog 9 (.p .str) := szH_of (by kernel_rfl) (by kernel_rfl) (by kernel_rfl)
theorem sh21 : SzH Go.Proofs.Tryd.prog 21 (.p (.int .i32)) := szH_of (by kernel_rfl) (by kernel_rfl) (by kernel_rfl)
theorem sh23 : SzH Go.Proofs.Tryd.prog 23 .sr := szH_of (by kernel_rfl) (by kernel_rfl) (by kernel_rfl)
theorem sh27 : SzH Go.Proofs.Tryd.prog 27 .sr := szH_of (by kernel_rfl) (by kernel_rfl) (by kernel_rfl)
theorem sh31 : SzH Go.Proofs.Tryd.prog 31 .sr := szH_of (by kernel_rfl) (by kernel_rfl) (by kernel_rfl)
theorem sh39 : SzH Go.Proofs.Tryd.prog 39 .pr := szH_of (by kernel_rfl) (by kernel_rfl) (by kernel_rfl)
theorem sh42 : SzH Go.Proofs.Tryd.prog 42 (.p TS2) := szH_of (by kernel_rfl) (by kernel_rfl) (by kernel_rfl)
theorem sh46 : SzH Go.Proofs.Tryd.prog 46 (.p TS2) := szH_of (by kernel_rfl) (by kernel_rfl) (by kernel_rfl)
theorem sh47 : SzH Go.Proofs.Tryd.prog 47 (.p .flt) := szH_of (by kernel_rfl) (by kernel_rfl) (by kernel_rfl)
theorem sh49 : SzH Go.Proofs.Tryd.prog 49 (.p TS0) := szH_of (by kernel_rfl) (by kernel_rfl) (by kernel_rfl)
theorem sh51 : SzH Go.Proofs.Tryd.prog 51 .sr := szH_of (by kernel_rfl) (by kernel_rfl) (by kernel_rfl)
theorem sh54 : SzH Go.Proofs.Tryd.prog 54 .sr := szH_of (by kernel_rfl) (by kernel_rfl) (by kernel_rfl)
theorem sh58 : SzH Go.Proofs.Tryd.prog 58 (.p TS3) := szH_of (by kernel_rfl) (by kernel_rfl) (by kernel_rfl)
theorem sh61 : SzH Go.Proofs.Tryd.prog 61 .sr := szH_of (by kernel_rfl) (by kernel_rfl) (by kernel_rfl)
theorem sh64 : SzH Go.Proofs.Tryd.prog 64 (.p (.int .i8)) := szH_of (by kernel_rfl) (by kernel_rfl) (by kernel_rfl)
theorem sh66 : SzH Go.Proofs.Tryd.prog 66 (.p TS1) := szH_of (by kernel_rfl) (by kernel_rfl) (by kernel_rfl)
theorem sh67 : SzH Go.Proofs.Tryd.prog 67 .pr := szH_of (by kernel_rfl) (by kernel_rfl) (by kernel_rfl)
theorem sh69 : SzH Go.Proofs.Tryd.prog 69 (.pair (.p (.int .i64)) (.one .pr)) := szH_of (by kernel_rfl) (by kernel_rfl) (by kernel_rfl)
theorem uh2 : UndH Go.Proofs.Tryd.prog 2 (.p (.int .i64)) := undH_p rfl
theorem uh3 : UndH Go.Proofs.Tryd.prog 3 (.p (.int .i64)) := undH_p rfl
theorem uh4 : UndH Go.Proofs.Tryd.prog 4 (.p .bool) := undH_p rfl
theorem uh5 : UndH Go.Proofs.Tryd.prog 5 (.p (.int .u8)) := undH_p rfl
theorem uh9 : UndH Go.Proofs.Tryd.prog 9 (.p .str) := undH_p rfl
theorem uh21 : UndH Go.Proofs.Tryd.prog 21 (.p (.int .i32)) := undH_p rfl
theorem uh23 : UndH Go.Proofs.Tryd.prog 23 .sr := undH_sr ⟨9, by kernel_rfl⟩
theorem uh27 : UndH Go.Proofs.Tryd.prog 27 .sr := undH_sr ⟨42, by kernel_rfl⟩
theorem uh31 : UndH Go.Proofs.Tryd.prog 31 .sr := undH_sr ⟨46, by kernel_rfl⟩
theorem uh39 : UndH Go.Proofs.Tryd.prog 39 .pr := undH_pr ⟨49, by kernel_rfl⟩
theorem uh42 : UndH Go.Proofs.Tryd.prog 42 (.p TS2) := undH_struct ⟨structOf Go.Proofs.Tryd.prog 42, by kernel_rfl, fieldsH_ofP (l := [(0, 2), (1, 9)]) (by kernel_rfl) ⟨⟨rfl, sh2⟩, ⟨rfl, sh9⟩⟩⟩ rfl
theorem uh46 : UndH Go.Proofs.Tryd.prog 46 (.p TS2) := undH_struct ⟨structOf Go.Proofs.Tryd.prog 46, by kernel_rfl, fieldsH_ofP (l := [(0, 2), (1, 9)]) (by kernel_rfl) ⟨⟨rfl, sh2⟩, ⟨rfl, sh9⟩⟩⟩ rfl
theorem uh47 : UndH Go.Proofs.Tryd.prog 47 (.p .flt) := undH_p rfl
theorem uh49 : UndH Go.Proofs.Tryd.prog 49 (.p TS0) := undH_struct ⟨structOf Go.Proofs.Tryd.prog 49, by kernel_rfl, fieldsH_ofP (l := [(0, 2), (1, 3), (2, 3), (3, 47), (4, 3), (5, 3), (6, 47)]) (by kernel_rfl) ⟨⟨rfl, sh2⟩, ⟨⟨rfl, sh3⟩, ⟨⟨rfl, sh3⟩, ⟨⟨rfl, sh47⟩, ⟨⟨rfl, sh3⟩, ⟨⟨rfl, sh3⟩, ⟨rfl, sh47⟩⟩⟩⟩⟩⟩⟩⟩ rfl
theorem uh51 : UndH Go.Proofs.Tryd.prog 51 .sr := undH_sr ⟨66, by kernel_rfl⟩
theorem uh54 : UndH Go.Proofs.Tryd.prog 54 .sr := undH_sr ⟨21, by kernel_rfl⟩
theorem uh58 : UndH Go.Proofs.Tryd.prog 58 (.p TS3) := undH_struct ⟨structOf Go.Proofs.Tryd.prog 58, by kernel_rfl, fieldsH_ofP (l := [(0, 5), (1, 5)]) (by kernel_rfl) ⟨⟨rfl, sh5⟩, ⟨rfl, sh5⟩⟩⟩ rfl
theorem uh61 : UndH Go.Proofs.Tryd.prog 61 .sr := undH_sr ⟨54, by kernel_rfl⟩
theorem uh64 : UndH Go.Proofs.Tryd.prog 64 (.p (.int .i8)) := undH_p rfl
theorem uh66 : UndH Go.Proofs.Tryd.prog 66 (.p TS1) := undH_struct ⟨structOf Go.Proofs.Tryd.prog 66, by kernel_rfl, fieldsH_ofP (l := [(0, 64), (1, 9)]) (by kernel_rfl) ⟨⟨rfl, sh64⟩, ⟨rfl, sh9⟩⟩⟩ rfl
theorem uh67 : UndH Go.Proofs.Tryd.prog 67 .pr := undH_pr ⟨69, by kernel_rfl⟩
theorem uh69 : UndH Go.Proofs.Tryd.prog 69 (.pair (.p (.int .i64)) (.one .pr)) := undH_struct ⟨structOf Go.Proofs.Tryd.prog 69, by kernel_rfl, fieldsH_of (l := [(0, 3), (1, 67)]) (by kernel_rfl) ⟨⟨rfl, sh3⟩, ⟨rfl, sh67⟩⟩⟩ rfl
theorem tab_hty (n : TypeId) (t : HTy) (h : T.hty n = some t) : SzH Go.Proofs.Tryd.prog n t ∧ UndH Go.Proofs.Tryd.prog n t := by
  unfold T at h
  dsimp only at h
  split at h
  · cases h; exact ⟨sh2, uh2⟩
  · cases h; exact ⟨sh3, uh3⟩
  · cases h; exact ⟨sh4, uh4⟩
  · cases h; exact ⟨sh5, uh5⟩
  · cases h; exact ⟨sh9, uh9⟩
  · cases h; exact ⟨sh21, uh21⟩
  · cases h; exact ⟨sh23, uh23⟩
  · cases h; exact ⟨sh27, uh27⟩
  · cases h; exact ⟨sh31, uh31⟩
  · cases h; exact ⟨sh39, uh39⟩
  · cases h; exact ⟨sh42, uh42⟩
  · cases h; exact ⟨sh46, uh46⟩
  · cases h; exact ⟨sh47, uh47⟩
  · cases h; exact ⟨sh49, uh49⟩
  · cases h; exact ⟨sh51, uh51⟩
  · cases h; exact ⟨sh54, uh54⟩
  · cases h; exact ⟨sh58, uh58⟩
  · cases h; exact ⟨sh61, uh61⟩
  · cases h; exact ⟨sh64, uh64⟩
  · cases h; exact ⟨sh66, uh66⟩
  · cases h; exact ⟨sh67, uh67⟩
  · cases h; exact ⟨sh69, uh69⟩
  · cases h
theorem tab_hsl (n : TypeId) (t : HTy) (e : TypeId) (h : T.hsl n = some (t, e)) : Go.Proofs.Tryd.prog.underlying n = some (.slice e) ∧ SzH Go.Proofs.Tryd.prog e t := by
  unfold T at h
  dsimp only at h
  split at h
  · cases h; exact ⟨by kernel_rfl, sh9⟩
  · cases h; exact ⟨by kernel_rfl, sh42⟩
  · cases h; exact ⟨by kernel_rfl, sh46⟩
  · cases h; exact ⟨by kernel_rfl, sh66⟩
  · cases h; exact ⟨by kernel_rfl, sh21⟩
  · cases h; exact ⟨by kernel_rfl, sh54⟩
  · cases h
theorem tab_meth (name : String) (t : TypeId) (f : FuncId) (h : (t, f) ∈ T.meth name) : MethOk Go.Proofs.Tryd.prog t name f := by
  unfold T at h
  dsimp only at h
  cases h
theorem tabOk : TabOk Go.Proofs.Tryd.prog T := ⟨tab_ty, tab_sl, tab_eq, ltI_eq, leI_eq, eqI_eq, nleI_eq, eqS_eq, i2fI_eq, f2iI_eq, foI_eq, faI_eq, tab_hty, tab_hsl, tab_meth⟩
theorem fn3 : Go.Proofs.Tryd.prog.funcs[3]? = some Go.Proofs.Tryd.f3 ∧ fnOk T (sg 3) Go.Proofs.Tryd.f3 = true := ⟨Go.Proofs.Tryd.func3, by kernel_rfl⟩
theorem fn4 : Go.Proofs.Tryd.prog.funcs[4]? = some Go.Proofs.Tryd.f4 ∧ fnOk T (sg 4) Go.Proofs.Tryd.f4 = true := ⟨Go.Proofs.Tryd.func4, by kernel_rfl⟩
theorem fn5 : Go.Proofs.Tryd.prog.funcs[5]? = some Go.Proofs.Tryd.f5 ∧ fnOk T (sg 5) Go.Proofs.Tryd.f5 = true := ⟨Go.Proofs.Tryd.func5, by kernel_rfl⟩
theorem fn6 : Go.Proofs.Tryd.prog.funcs[6]? = some Go.Proofs.Tryd.f6 ∧ fnOk T (sg 6) Go.Proofs.Tryd.f6 = true := ⟨Go.Proofs.Tryd.func6, by kernel_rfl⟩
theorem fn7 : Go.Proofs.Tryd.prog.funcs[7]? = some Go.Proofs.Tryd.f7 ∧ fnOk T (sg 7) Go.Proofs.Tryd.f7 = true := ⟨Go.Proofs.Tryd.func7, by kernel_rfl⟩
theorem fn8 : Go.Proofs.Tryd.prog.funcs[8]? = some Go.Proofs.Tryd.f8 ∧ fnOk T (sg 8) Go.Proofs.Tryd.f8 = true := ⟨Go.Proofs.Tryd.func8, by kernel_rfl⟩
theorem fn10 : Go.Proofs.Tryd.prog.funcs[10]? = some Go.Proofs.Tryd.f10 ∧ fnOk T (sg 10) Go.Proofs.Tryd.f10 = true := ⟨Go.Proofs.Tryd.func10, by kernel_rfl⟩
theorem fn11 : Go.Proofs.Tryd.prog.funcs[11]? = some Go.Proofs.Tryd.f11 ∧ fnOk T (sg 11) Go.Proofs.Tryd.f11 = true := ⟨Go.Proofs.Tryd.func11, by kernel_rfl⟩
theorem fn12 : Go.Proofs.Tryd.prog.funcs[12]? = some Go.Proofs.Tryd.f12 ∧ fnOk T (sg 12) Go.Proofs.Tryd.f12 = true := ⟨Go.Proofs.Tryd.func12, by kernel_rfl⟩
theorem fn13 : Go.Proofs.Tryd.prog.funcs[13]? = some Go.Proofs.Tryd.f13 ∧ fnOk T (sg 13) Go.Proofs.Tryd.f13 = true := ⟨Go.Proofs.Tryd.func13, by kernel_rfl⟩
theorem fn14 : Go.Proofs.Tryd.prog.funcs[14]? = some Go.Proofs.Tryd.f14 ∧ fnOk T (sg 14) Go.Proofs.Tryd.f14 = true := ⟨Go.Proofs.Tryd.func14, by kernel_rfl⟩
theorem fn15 : Go.Proofs.Tryd.prog.funcs[15]? = some Go.Proofs.Tryd.f15 ∧ fnOk T (sg 15) Go.Proofs.Tryd.f15 = true := ⟨Go.Proofs.Tryd.func15, by kernel_rfl⟩
theorem fn16 : Go.Proofs.Tryd.prog.funcs[16]? = some Go.Proofs.Tryd.f16 ∧ fnOk T (sg 16) Go.Proofs.Tryd.f16 = true := ⟨Go.Proofs.Tryd.func16, by kernel_rfl⟩
theorem fn17 : Go.Proofs.Tryd.prog.funcs[17]? = some Go.Proofs.Tryd.f17 ∧ fnOk T (sg 17) Go.Proofs.Tryd.f17 = true := ⟨Go.Proofs.Tryd.func17, by kernel_rfl⟩
theorem fn18 : Go.Proofs.Tryd.prog.funcs[18]? = some Go.Proofs.Tryd.f18 ∧ fnOk T (sg 18) Go.Proofs.Tryd.f18 = true := ⟨Go.Proofs.Tryd.func18, by kernel_rfl⟩
theorem fn19 : Go.Proofs.Tryd.prog.funcs[19]? = some Go.Proofs.Tryd.f19 ∧ fnOk T (sg 19) Go.Proofs.Tryd.f19 = true := ⟨Go.Proofs.Tryd.func19, by kernel_rfl⟩
theorem fn21 : Go.Proofs.Tryd.prog.funcs[21]? = some Go.Proofs.Tryd.f21 ∧ fnOk T (sg 21) Go.Proofs.Tryd.f21 = true := ⟨Go.Proofs.Tryd.func21, by kernel_rfl⟩
theorem fn22 : Go.Proofs.Tryd.prog.funcs[22]? = some Go.Proofs.Tryd.f22 ∧ fnOk T (sg 22) Go.Proofs.Tryd.f22 = true := ⟨Go.Proofs.Tryd.func22, by kernel_rfl⟩
theorem fn23 : Go.Proofs.Tryd.prog.funcs[23]? = some Go.Proofs.Tryd.f23 ∧ fnOk T (sg 23) Go.Proofs.Tryd.f23 = true := ⟨Go.Proofs.Tryd.func23, by kernel_rfl⟩
theorem fn24 : Go.Proofs.Tryd.prog.funcs[24]? = some Go.Proofs.Tryd.f24 ∧ fnOk T (sg 24) Go.Proofs.Tryd.f24 = true := ⟨Go.Proofs.Tryd.func24, by kernel_rfl⟩
theorem fn25 : Go.Proofs.Tryd.prog.funcs[25]? = some Go.Proofs.Tryd.f25 ∧ fnOk T (sg 25) Go.Proofs.Tryd.f25 = true := ⟨Go.Proofs.Tryd.func25, by kernel_rfl⟩
theorem fn26 : Go.Proofs.Tryd.prog.funcs[26]? = some Go.Proofs.Tryd.f26 ∧ fnOk T (sg 26) Go.Proofs.Tryd.f26 = true := ⟨Go.Proofs.Tryd.func26, by kernel_rfl⟩
theorem fn27 : Go.Proofs.Tryd.prog.funcs[27]? = some Go.Proofs.Tryd.f27 ∧ fnOk T (sg 27) Go.Proofs.Tryd.f27 = true := ⟨Go.Proofs.Tryd.func27, by kernel_rfl⟩
theorem fn28 : Go.Proofs.Tryd.prog.funcs[28]? = some Go.Proofs.Tryd.f28 ∧ fnOk T (sg 28) Go.Proofs.Tryd.f28 = true := ⟨Go.Proofs.Tryd.func28, by kernel_rfl⟩
theorem fn29 : Go.Proofs.Tryd.prog.funcs[29]? = some Go.Proofs.Tryd.f29 ∧ fnOk T (sg 29) Go.Proofs.Tryd.f29 = true := ⟨Go.Proofs.Tryd.func29, by kernel_rfl⟩
theorem fn30 : Go.Proofs.Tryd.prog.funcs[30]? = some Go.Proofs.Tryd.f30 ∧ fnOk T (sg 30) Go.Proofs.Tryd.f30 = true := ⟨Go.Proofs.Tryd.func30, by kernel_rfl⟩
theorem fn31 : Go.Proofs.Tryd.prog.funcs[31]? = some Go.Proofs.Tryd.f31 ∧ fnOk T (sg 31) Go.Proofs.Tryd.f31 = true := ⟨Go.Proofs.Tryd.func31, by kernel_rfl⟩
theorem fn33 : Go.Proofs.Tryd.prog.funcs[33]? = some Go.Proofs.Tryd.f33 ∧ fnOk T (sg 33) Go.Proofs.Tryd.f33 = true := ⟨Go.Proofs.Tryd.func33, by kernel_rfl⟩
theorem fn34 : Go.Proofs.Tryd.prog.funcs[34]? = some Go.Proofs.Tryd.f34 ∧ fnOk T (sg 34) Go.Proofs.Tryd.f34 = true := ⟨Go.Proofs.Tryd.func34, by kernel_rfl⟩
theorem fn35 : Go.Proofs.Tryd.prog.funcs[35]? = some Go.Proofs.Tryd.f35 ∧ fnOk T (sg 35) Go.Proofs.Tryd.f35 = true := ⟨Go.Proofs.Tryd.func35, by kernel_rfl⟩
theorem fn36 : Go.Proofs.Tryd.prog.funcs[36]? = some Go.Proofs.Tryd.f36 ∧ fnOk T (sg 36) Go.Proofs.Tryd.f36 = true := ⟨Go.Proofs.Tryd.func36, by kernel_rfl⟩
theorem fn37 : Go.Proofs.Tryd.prog.funcs[37]? = some Go.Proofs.Tryd.f37 ∧ fnOk T (sg 37) Go.Proofs.Tryd.f37 = true := ⟨Go.Proofs.Tryd.func37, by kernel_rfl⟩
theorem fn38 : Go.Proofs.Tryd.prog.funcs[38]? = some Go.Proofs.Tryd.f38 ∧ fnOk T (sg 38) Go.Proofs.Tryd.f38 = true := ⟨Go.Proofs.Tryd.func38, by kernel_rfl⟩
theorem fn39 : Go.Proofs.Tryd.prog.funcs[39]? = some Go.Proofs.Tryd.f39 ∧ fnOk T (sg 39) Go.Proofs.Tryd.f39 = true := ⟨Go.Proofs.Tryd.func39, by kernel_rfl⟩
theorem fn40 : Go.Proofs.Tryd.prog.funcs[40]? = some Go.Proofs.Tryd.f40 ∧ fnOk T (sg 40) Go.Proofs.Tryd.f40 = true := ⟨Go.Proofs.Tryd.func40, by kernel_rfl⟩
theorem fn41 : Go.Proofs.Tryd.prog.funcs[41]? = some Go.Proofs.Tryd.f41 ∧ fnOk T (sg 41) Go.Proofs.Tryd.f41 = true := ⟨Go.Proofs.Tryd.func41, by kernel_rfl⟩
theorem fn42 : Go.Proofs.Tryd.prog.funcs[42]? = some Go.Proofs.Tryd.f42 ∧ fnOk T (sg 42) Go.Proofs.Tryd.f42 = true := ⟨Go.Proofs.Tryd.func42, by kernel_rfl⟩
theorem fn43 : Go.Proofs.Tryd.prog.funcs[43]? = some Go.Proofs.Tryd.f43 ∧ fnOk T (sg 43) Go.Proofs.Tryd.f43 = true := ⟨Go.Proofs.Tryd.func43, by kernel_rfl⟩
theorem fn44 : Go.Proofs.Tryd.prog.funcs[44]? = some Go.Proofs.Tryd.f44 ∧ fnOk T (sg 44) Go.Proofs.Tryd.f44 = true := ⟨Go.Proofs.Tryd.func44, by kernel_rfl⟩
theorem fn45 : Go.Proofs.Tryd.prog.funcs[45]? = some Go.Proofs.Tryd.f45 ∧ fnOk T (sg 45) Go.Proofs.Tryd.f45 = true := ⟨Go.Proofs.Tryd.func45, by kernel_rfl⟩
theorem fn46 : Go.Proofs.Tryd.prog.funcs[46]? = some Go.Proofs.Tryd.f46 ∧ fnOk T (sg 46) Go.Proofs.Tryd.f46 = true := ⟨Go.Proofs.Tryd.func46, by kernel_rfl⟩
theorem fn47 : Go.Proofs.Tryd.prog.funcs[47]? = some Go.Proofs.Tryd.f47 ∧ fnOk T (sg 47) Go.Proofs.Tryd.f47 = true := ⟨Go.Proofs.Tryd.func47, by kernel_rfl⟩
theorem fn48 : Go.Proofs.Tryd.prog.funcs[48]? = some Go.Proofs.Tryd.f48 ∧ fnOk T (sg 48) Go.Proofs.Tryd.f48 = true := ⟨Go.Proofs.Tryd.func48, by kernel_rfl⟩
theorem fn49 : Go.Proofs.Tryd.prog.funcs[49]? = some Go.Proofs.Tryd.f49 ∧ fnOk T (sg 49) Go.Proofs.Tryd.f49 = true := ⟨Go.Proofs.Tryd.func49, by kernel_rfl⟩
theorem fn50 : Go.Proofs.Tryd.prog.funcs[50]? = some Go.Proofs.Tryd.f50 ∧ fnOk T (sg 50) Go.Proofs.Tryd.f50 = true := ⟨Go.Proofs.Tryd.func50, by kernel_rfl⟩
theorem fn51 : Go.Proofs.Tryd.prog.funcs[51]? = some Go.Proofs.Tryd.f51 ∧ fnOk T (sg 51) Go.Proofs.Tryd.f51 = true := ⟨Go.Proofs.Tryd.func51, by kernel_rfl⟩
theorem fn52 : Go.Proofs.Tryd.prog.funcs[52]? = some Go.Proofs.Tryd.f52 ∧ fnOk T (sg 52) Go.Proofs.Tryd.f52 = true := ⟨Go.Proofs.Tryd.func52, by kernel_rfl⟩
theorem fn53 : Go.Proofs.Tryd.prog.funcs[53]? = some Go.Proofs.Tryd.f53 ∧ fnOk T (sg 53) Go.Proofs.Tryd.f53 = true := ⟨Go.Proofs.Tryd.func53, by kernel_rfl⟩
theorem fn54 : Go.Proofs.Tryd.prog.funcs[54]? = some Go.Proofs.Tryd.f54 ∧ fnOk T (sg 54) Go.Proofs.Tryd.f54 = true := ⟨Go.Proofs.Tryd.func54, by kernel_rfl⟩
theorem fn55 : Go.Proofs.Tryd.prog.funcs[55]? = some Go.Proofs.Tryd.f55 ∧ fnOk T (sg 55) Go.Proofs.Tryd.f55 = true := ⟨Go.Proofs.Tryd.func55, by kernel_rfl⟩
theorem fn56 : Go.Proofs.Tryd.prog.funcs[56]? = some Go.Proofs.Tryd.f56 ∧ fnOk T (sg 56) Go.Proofs.Tryd.f56 = true := ⟨Go.Proofs.Tryd.func56, by kernel_rfl⟩
theorem fn57 : Go.Proofs.Tryd.prog.funcs[57]? = some Go.Proofs.Tryd.f57 ∧ fnOk T (sg 57) Go.Proofs.Tryd.f57 = true := ⟨Go.Proofs.Tryd.func57, by kernel_rfl⟩
theorem fnOf_ok (f : FuncId) (fn : Func) (h : fnOf f = some fn) : Go.Proofs.Tryd.prog.funcs[f]? = some fn ∧ fnOk T (sg f) fn = true := by
  unfold fnOf at h
  split at h
  · cases h; exact fn3
  · cases h; exact fn4
  · cases h; exact fn5
  · cases h; exact fn6
  · cases h; exact fn7
  · cases h; exact fn8
  · cases h; exact fn10
  · cases h; exact fn11
  · cases h; exact fn12
  · cases h; exact fn13
  · cases h; exact fn14
  · cases h; exact fn15
  · cases h; exact fn16
  · cases h; exact fn17
  · cases h; exact fn18
  · cases h; exact fn19
  · cases h; exact fn21
  · cases h; exact fn22
  · cases h; exact fn23
  · cases h; exact fn24
  · cases h; exact fn25
  · cases h; exact fn26
  · cases h; exact fn27
  · cases h; exact fn28
  · cases h; exact fn29
  · cases h; exact fn30
  · cases h; exact fn31
  · cases h; exact fn33
  · cases h; exact fn34
  · cases h; exact fn35
  · cases h; exact fn36
  · cases h; exact fn37
  · cases h; exact fn38
  · cases h; exact fn39
  · cases h; exact fn40
  · cases h; exact fn41
  · cases h; exact fn42
  · cases h; exact fn43
  · cases h; exact fn44
  · cases h; exact fn45
  · cases h; exact fn46
  · cases h; exact fn47
  · cases h; exact fn48
  · cases h; exact fn49
  · cases h; exact fn50
  · cases h; exact fn51
  · cases h; exact fn52
  · cases h; exact fn53
  · cases h; exact fn54
  · cases h; exact fn55
  · cases h; exact fn56
  · cases h; exact fn57
  · cases h
theorem callF_ok (W : World) (hx : ∀ f, CallOk Go.Proofs.Tryd.prog W sg extF f) : ∀ (K : Nat) (f : FuncId), CallOk Go.Proofs.Tryd.prog W sg (callF K) f
  | 0, f => fun xs r h => by cases h
  | K + 1, f => by
    cases hf : fnOf f with
    | none =>
      intro xs r h
      have h' : (match fnOf f with | some fn => evalF T sg (callF K) (liveOf f) K fn (sg f) xs | none => extF f xs) = some r := h
      rw [hf] at h'
      exact hx f xs r h'
    | some fn =>
      refine call_ev (live := liveOf f) (k := K) (by kernel_rfl) tabOk (callF_ok W hx K) (fnOf_ok f fn hf).1 (fnOf_ok f fn hf).2 fun xs => ?_
      show (match fnOf f with | some fn => evalF T sg (callF K) (liveOf f) K fn (sg f) xs | none => extF f xs) = _
      rw [hf]
theorem ext_ok (W : World) (hG : Glob W) (f : FuncId) : CallOk Go.Proofs.Tryd.prog W sg extF f := by
  cases hi : isExt f with
  | false =>
    intro xs r h
    have e : extF f = fun _ => none := by
      show cond (isExt f) _ _ = _
      rw [hi]
      rfl
    rw [e] at h
    cases h
  | true =>
    unfold isExt at hi
    simp only [Bool.or_eq_true] at hi
    rcases hi with (h) | h
    · obtain rfl := Nat.eq_of_beq_eq_true h
      exact ext9_ok W
    · obtain rfl := Nat.eq_of_beq_eq_true h
      exact ext20_ok W hG

end Go.Proofs.YtblmeoigjbnmiaaDoor.E
