import Derived.Test.YtfglahmbnnkijaaEvT
/- Written by a program of this session (wip/ev4dev): the table fits the program, and the functions do what they evaluate to. -/
set_option linter.unusedVariables false
namespace Go.Proofs.Ytfglahmbnnkijaa.E
open Go.Ev
theorem sz2 : SzOk Go.Proofs.Try.prog 2 (.int .i64) := szOk_of (by kernel_rfl) (by kernel_rfl) (by kernel_rfl)
theorem sz3 : SzOk Go.Proofs.Try.prog 3 (.int .i64) := szOk_of (by kernel_rfl) (by kernel_rfl) (by kernel_rfl)
theorem sz4 : SzOk Go.Proofs.Try.prog 4 .bool := szOk_of (by kernel_rfl) (by kernel_rfl) (by kernel_rfl)
theorem sz5 : SzOk Go.Proofs.Try.prog 5 (.int .u8) := szOk_of (by kernel_rfl) (by kernel_rfl) (by kernel_rfl)
theorem sz9 : SzOk Go.Proofs.Try.prog 9 .str := szOk_of (by kernel_rfl) (by kernel_rfl) (by kernel_rfl)
theorem sz21 : SzOk Go.Proofs.Try.prog 21 (.int .i32) := szOk_of (by kernel_rfl) (by kernel_rfl) (by kernel_rfl)
theorem sz36 : SzOk Go.Proofs.Try.prog 36 TS1 := szOk_of (by kernel_rfl) (by kernel_rfl) (by kernel_rfl)
theorem sz41 : SzOk Go.Proofs.Try.prog 41 TS1 := szOk_of (by kernel_rfl) (by kernel_rfl) (by kernel_rfl)
theorem sz74 : SzOk Go.Proofs.Try.prog 74 TS1 := szOk_of (by kernel_rfl) (by kernel_rfl) (by kernel_rfl)
theorem sz88 : SzOk Go.Proofs.Try.prog 88 TS0 := szOk_of (by kernel_rfl) (by kernel_rfl) (by kernel_rfl)
theorem sz125 : SzOk Go.Proofs.Try.prog 125 TS4 := szOk_of (by kernel_rfl) (by kernel_rfl) (by kernel_rfl)
theorem sz136 : SzOk Go.Proofs.Try.prog 136 (.int .u64) := szOk_of (by kernel_rfl) (by kernel_rfl) (by kernel_rfl)
theorem sz154 : SzOk Go.Proofs.Try.prog 154 TS2 := szOk_of (by kernel_rfl) (by kernel_rfl) (by kernel_rfl)
theorem sz158 : SzOk Go.Proofs.Try.prog 158 (.int .i64) := szOk_of (by kernel_rfl) (by kernel_rfl) (by kernel_rfl)
theorem un2 : UndOk Go.Proofs.Try.prog 2 (.int .i64) := by show _ = _; kernel_rfl
theorem un3 : UndOk Go.Proofs.Try.prog 3 (.int .i64) := by show _ = _; kernel_rfl
theorem un4 : UndOk Go.Proofs.Try.prog 4 .bool := by show _ = _; kernel_rfl
theorem un5 : UndOk Go.Proofs.Try.prog 5 (.int .u8) := by show _ = _; kernel_rfl
theorem un9 : UndOk Go.Proofs.Try.prog 9 .str := by show _ = _; kernel_rfl
theorem un21 : UndOk Go.Proofs.Try.prog 21 (.int .i32) := by show _ = _; kernel_rfl
theorem un36 : UndOk Go.Proofs.Try.prog 36 TS1 := ⟨structOf Go.Proofs.Try.prog 36, by kernel_rfl, fieldsOk_of (l := [(0, 2), (1, 2), (2, 9)]) (by kernel_rfl) ⟨⟨rfl, sz2, fun _ => un2⟩, ⟨⟨rfl, sz2, fun _ => un2⟩, ⟨rfl, sz9, fun _ => un9⟩⟩⟩⟩
theorem un41 : UndOk Go.Proofs.Try.prog 41 TS1 := ⟨structOf Go.Proofs.Try.prog 41, by kernel_rfl, fieldsOk_of (l := [(0, 2), (1, 2), (2, 9)]) (by kernel_rfl) ⟨⟨rfl, sz2, fun _ => un2⟩, ⟨⟨rfl, sz2, fun _ => un2⟩, ⟨rfl, sz9, fun _ => un9⟩⟩⟩⟩
theorem un74 : UndOk Go.Proofs.Try.prog 74 TS1 := ⟨structOf Go.Proofs.Try.prog 74, by kernel_rfl, fieldsOk_of (l := [(0, 3), (1, 3), (2, 9)]) (by kernel_rfl) ⟨⟨rfl, sz3, fun _ => un3⟩, ⟨⟨rfl, sz3, fun _ => un3⟩, ⟨rfl, sz9, fun _ => un9⟩⟩⟩⟩
theorem un88 : UndOk Go.Proofs.Try.prog 88 TS0 := ⟨structOf Go.Proofs.Try.prog 88, by kernel_rfl, fieldsOk_of (l := [(0, 3), (1, 3), (2, 3), (3, 3)]) (by kernel_rfl) ⟨⟨rfl, sz3, fun _ => un3⟩, ⟨⟨rfl, sz3, fun _ => un3⟩, ⟨⟨rfl, sz3, fun _ => un3⟩, ⟨rfl, sz3, fun _ => un3⟩⟩⟩⟩⟩
theorem un125 : UndOk Go.Proofs.Try.prog 125 TS4 := ⟨structOf Go.Proofs.Try.prog 125, by kernel_rfl, fieldsOk_of (l := [(0, 9)]) (by kernel_rfl) ⟨rfl, sz9, fun _ => un9⟩⟩
theorem un136 : UndOk Go.Proofs.Try.prog 136 (.int .u64) := by show _ = _; kernel_rfl
theorem un154 : UndOk Go.Proofs.Try.prog 154 TS2 := ⟨structOf Go.Proofs.Try.prog 154, by kernel_rfl, fieldsOk_of (l := [(0, 3), (1, 3), (2, 3)]) (by kernel_rfl) ⟨⟨rfl, sz3, fun _ => un3⟩, ⟨⟨rfl, sz3, fun _ => un3⟩, ⟨rfl, sz3, fun _ => un3⟩⟩⟩⟩
theorem un158 : UndOk Go.Proofs.Try.prog 158 (.int .i64) := by show _ = _; kernel_rfl
theorem eq36 : EqOk Go.Proofs.Try.prog 36 := eqOk_of (by kernel_rfl) (by kernel_rfl) (by kernel_rfl)
theorem eq41 : EqOk Go.Proofs.Try.prog 41 := eqOk_of (by kernel_rfl) (by kernel_rfl) (by kernel_rfl)
theorem eq74 : EqOk Go.Proofs.Try.prog 74 := eqOk_of (by kernel_rfl) (by kernel_rfl) (by kernel_rfl)
theorem tab_ty (n : TypeId) (t : Ty) (h : T.ty n = some t) : SzOk Go.Proofs.Try.prog n t ∧ UndOk Go.Proofs.Try.prog n t := by
  unfold T at h
  dsimp only at h
  split at h
  · cases h; exact ⟨sz2, un2⟩
  · cases h; exact ⟨sz3, un3⟩
  · cases h; exact ⟨sz4, un4⟩
  · cases h; exact ⟨sz5, un5⟩
  · cases h; exact ⟨sz9, un9⟩
  · cases h; exact ⟨sz21, un21⟩
  · cases h; exact ⟨sz36, un36⟩
  · cases h; exact ⟨sz41, un41⟩
  · cases h; exact ⟨sz74, un74⟩
  · cases h; exact ⟨sz88, un88⟩
  · cases h; exact ⟨sz125, un125⟩
  · cases h; exact ⟨sz136, un136⟩
  · cases h; exact ⟨sz154, un154⟩
  · cases h; exact ⟨sz158, un158⟩
  · cases h
theorem tab_sl (n : TypeId) (t : Ty) (e : TypeId) (h : T.sl n = some (t, e)) : Go.Proofs.Try.prog.underlying n = some (.slice e) ∧ SzOk Go.Proofs.Try.prog e t ∧ UndOk Go.Proofs.Try.prog e t := by
  unfold T at h
  dsimp only at h
  split at h
  · cases h; exact ⟨by kernel_rfl, sz36, un36⟩
  · cases h; exact ⟨by kernel_rfl, sz9, un9⟩
  · cases h; exact ⟨by kernel_rfl, sz5, un5⟩
  · cases h; exact ⟨by kernel_rfl, sz21, un21⟩
  · cases h; exact ⟨by kernel_rfl, sz88, un88⟩
  · cases h
theorem tab_eq (n : TypeId) (h : T.eq n = true) : EqOk Go.Proofs.Try.prog n := by
  unfold T at h
  dsimp only at h
  split at h
  · exact eq36
  · exact eq41
  · exact eq74
  · cases h
theorem Tc_eq : Tc = T := by
  have h1 : (fun x y : Int => decide (x < y)) = ltI := by funext x y; exact (ltI_eq x y).symm
  have h2 : (fun x y : Int => decide (x ≤ y)) = leI := by funext x y; exact (leI_eq x y).symm
  have h3 : (fun x y : Int => decide (x = y)) = Go.Ev.eqI := by funext x y; exact (eqI_eq x y).symm
  have h4 : (fun x y : Nat => Nat.ble x y) = nleI := by
    funext x y
    rw [nleI_eq]
    cases h : Nat.ble x y with
    | true => exact (decide_eq_true (Nat.le_of_ble_eq_true h)).symm
    | false => exact (decide_eq_false (fun g => by rw [Nat.ble_eq_true_of_le g] at h; cases h)).symm
  have h5 : (fun x y : ByteArray => x.data.toList == y.data.toList) = Go.Ev.eqS := by funext x y; rw [eqS_eq, ByteArray.toList_eq, ByteArray.toList_eq]
  unfold Tc T
  simp only [h1, h2, h3, h4, h5]
theorem sh2 : SzH Go.Proofs.Try.prog 2 (.p (.int .i64)) := szH_of (by kernel_rfl) (by kernel_rfl) (by kernel_rfl)
theorem sh3 : SzH Go.Proofs.Try.prog 3 (.p (.int .i64)) := szH_of (by kernel_rfl) (by kernel_rfl) (by kernel_rfl)
theorem sh5 : SzH Go.Proofs.Try.prog 5 (.p (.int .u8)) := szH_of (by kernel_rfl) (by kernel_rfl) (by kernel_rfl)
theorem sh9 : SzH Go.Proofs.Try.prog 9 (.p .str) := szH_of (by kernel_rfl) (by kernel_rfl) (by kernel_rfl)
theorem sh21 : SzH Go.Proofs.Try.prog 21 (.p (.int .i32)) := szH_of (by kernel_rfl) (by kernel_rfl) (by kernel_rfl)
theorem sh24 : SzH Go.Proofs.Try.prog 24 .sr := szH_of (by kernel_rfl) (by kernel_rfl) (by kernel_rfl)
theorem sh26 : SzH Go.Proofs.Try.prog 26 .sr := szH_of (by kernel_rfl) (by kernel_rfl) (by kernel_rfl)
theorem sh31 : SzH Go.Proofs.Try.prog 31 .sr := szH_of (by kernel_rfl) (by kernel_rfl) (by kernel_rfl)
theorem sh36 : SzH Go.Proofs.Try.prog 36 (.p TS1) := szH_of (by kernel_rfl) (by kernel_rfl) (by kernel_rfl)
theorem sh41 : SzH Go.Proofs.Try.prog 41 (.p TS1) := szH_of (by kernel_rfl) (by kernel_rfl) (by kernel_rfl)
theorem sh45 : SzH Go.Proofs.Try.prog 45 .sr := szH_of (by kernel_rfl) (by kernel_rfl) (by kernel_rfl)
theorem sh55 : SzH Go.Proofs.Try.prog 55 .sr := szH_of (by kernel_rfl) (by kernel_rfl) (by kernel_rfl)
theorem sh57 : SzH Go.Proofs.Try.prog 57 .sr := szH_of (by kernel_rfl) (by kernel_rfl) (by kernel_rfl)
theorem sh60 : SzH Go.Proofs.Try.prog 60 .sr := szH_of (by kernel_rfl) (by kernel_rfl) (by kernel_rfl)
theorem sh63 : SzH Go.Proofs.Try.prog 63 .ir := szH_of (by kernel_rfl) (by kernel_rfl) (by kernel_rfl)
theorem sh74 : SzH Go.Proofs.Try.prog 74 (.p TS1) := szH_of (by kernel_rfl) (by kernel_rfl) (by kernel_rfl)
theorem sh82 : SzH Go.Proofs.Try.prog 82 .sr := szH_of (by kernel_rfl) (by kernel_rfl) (by kernel_rfl)
theorem sh85 : SzH Go.Proofs.Try.prog 85 .sr := szH_of (by kernel_rfl) (by kernel_rfl) (by kernel_rfl)
theorem sh88 : SzH Go.Proofs.Try.prog 88 (.p TS0) := szH_of (by kernel_rfl) (by kernel_rfl) (by kernel_rfl)
theorem sh106 : SzH Go.Proofs.Try.prog 106 .ir := szH_of (by kernel_rfl) (by kernel_rfl) (by kernel_rfl)
theorem sh111 : SzH Go.Proofs.Try.prog 111 (.pair .sr (.one .sr)) := szH_of (by kernel_rfl) (by kernel_rfl) (by kernel_rfl)
theorem sh112 : SzH Go.Proofs.Try.prog 112 .sr := szH_of (by kernel_rfl) (by kernel_rfl) (by kernel_rfl)
theorem sh118 : SzH Go.Proofs.Try.prog 118 (.pair .sr (.one .sr)) := szH_of (by kernel_rfl) (by kernel_rfl) (by kernel_rfl)
theorem sh120 : SzH Go.Proofs.Try.prog 120 (.pair .sr (.one .sr)) := szH_of (by kernel_rfl) (by kernel_rfl) (by kernel_rfl)
theorem sh123 : SzH Go.Proofs.Try.prog 123 .pr := szH_of (by kernel_rfl) (by kernel_rfl) (by kernel_rfl)
theorem sh125 : SzH Go.Proofs.Try.prog 125 (.p TS4) := szH_of (by kernel_rfl) (by kernel_rfl) (by kernel_rfl)
theorem sh129 : SzH Go.Proofs.Try.prog 129 .ir := szH_of (by kernel_rfl) (by kernel_rfl) (by kernel_rfl)
theorem sh130 : SzH Go.Proofs.Try.prog 130 .sr := szH_of (by kernel_rfl) (by kernel_rfl) (by kernel_rfl)
theorem sh131 : SzH Go.Proofs.Try.prog 131 .sr := szH_of (by kernel_rfl) (by kernel_rfl) (by kernel_rfl)
theorem sh136 : SzH Go.Proofs.Try.prog 136 (.p (.int .u64)) := szH_of (by kernel_rfl) (by kernel_rfl) (by kernel_rfl)
theorem sh139 : SzH Go.Proofs.Try.prog 139 .pr := szH_of (by kernel_rfl) (by kernel_rfl) (by kernel_rfl)
theorem sh141 : SzH Go.Proofs.Try.prog 141 (.one .sr) := szH_of (by kernel_rfl) (by kernel_rfl) (by kernel_rfl)
theorem sh144 : SzH Go.Proofs.Try.prog 144 (.pair .ir (.pair (.one .sr) (.pair (.one .sr) (.pair (.p (.int .i64)) (.pair (.p (.int .i64)) (.pair (.p (.int .i64)) (.pair (.p (.int .i64)) (.pair (.p (.int .i64)) (.one (.p (.int .i64))))))))))) := szH_of (by kernel_rfl) (by kernel_rfl) (by kernel_rfl)
theorem sh154 : SzH Go.Proofs.Try.prog 154 (.p TS2) := szH_of (by kernel_rfl) (by kernel_rfl) (by kernel_rfl)
theorem sh158 : SzH Go.Proofs.Try.prog 158 (.p (.int .i64)) := szH_of (by kernel_rfl) (by kernel_rfl) (by kernel_rfl)
theorem uh2 : UndH Go.Proofs.Try.prog 2 (.p (.int .i64)) := undH_p rfl
theorem uh3 : UndH Go.Proofs.Try.prog 3 (.p (.int .i64)) := undH_p rfl
theorem uh5 : UndH Go.Proofs.Try.prog 5 (.p (.int .u8)) := undH_p rfl
theorem uh9 : UndH Go.Proofs.Try.prog 9 (.p .str) := undH_p rfl
theorem uh21 : UndH Go.Proofs.Try.prog 21 (.p (.int .i32)) := undH_p rfl
theorem uh24 : UndH Go.Proofs.Try.prog 24 .sr := undH_sr ⟨41, by kernel_rfl⟩
theorem uh26 : UndH Go.Proofs.Try.prog 26 .sr := undH_sr ⟨36, by kernel_rfl⟩
theorem uh31 : UndH Go.Proofs.Try.prog 31 .sr := undH_sr ⟨9, by kernel_rfl⟩
theorem uh36 : UndH Go.Proofs.Try.prog 36 (.p TS1) := undH_struct ⟨structOf Go.Proofs.Try.prog 36, by kernel_rfl, fieldsH_ofP (l := [(0, 2), (1, 2), (2, 9)]) (by kernel_rfl) ⟨⟨rfl, sh2⟩, ⟨⟨rfl, sh2⟩, ⟨rfl, sh9⟩⟩⟩⟩ rfl
theorem uh41 : UndH Go.Proofs.Try.prog 41 (.p TS1) := undH_struct ⟨structOf Go.Proofs.Try.prog 41, by kernel_rfl, fieldsH_ofP (l := [(0, 2), (1, 2), (2, 9)]) (by kernel_rfl) ⟨⟨rfl, sh2⟩, ⟨⟨rfl, sh2⟩, ⟨rfl, sh9⟩⟩⟩⟩ rfl
theorem uh45 : UndH Go.Proofs.Try.prog 45 .sr := undH_sr ⟨5, by kernel_rfl⟩
theorem uh55 : UndH Go.Proofs.Try.prog 55 .sr := undH_sr ⟨21, by kernel_rfl⟩
theorem uh57 : UndH Go.Proofs.Try.prog 57 .sr := undH_sr ⟨74, by kernel_rfl⟩
theorem uh60 : UndH Go.Proofs.Try.prog 60 .sr := undH_sr ⟨3, by kernel_rfl⟩
theorem uh63 : UndH Go.Proofs.Try.prog 63 .ir := undH_ir ⟨ifaceOf Go.Proofs.Try.prog 63, by kernel_rfl⟩
theorem uh74 : UndH Go.Proofs.Try.prog 74 (.p TS1) := undH_struct ⟨structOf Go.Proofs.Try.prog 74, by kernel_rfl, fieldsH_ofP (l := [(0, 3), (1, 3), (2, 9)]) (by kernel_rfl) ⟨⟨rfl, sh3⟩, ⟨⟨rfl, sh3⟩, ⟨rfl, sh9⟩⟩⟩⟩ rfl
theorem uh82 : UndH Go.Proofs.Try.prog 82 .sr := undH_sr ⟨74, by kernel_rfl⟩
theorem uh85 : UndH Go.Proofs.Try.prog 85 .sr := undH_sr ⟨88, by kernel_rfl⟩
theorem uh88 : UndH Go.Proofs.Try.prog 88 (.p TS0) := undH_struct ⟨structOf Go.Proofs.Try.prog 88, by kernel_rfl, fieldsH_ofP (l := [(0, 3), (1, 3), (2, 3), (3, 3)]) (by kernel_rfl) ⟨⟨rfl, sh3⟩, ⟨⟨rfl, sh3⟩, ⟨⟨rfl, sh3⟩, ⟨rfl, sh3⟩⟩⟩⟩⟩ rfl
theorem uh106 : UndH Go.Proofs.Try.prog 106 .ir := undH_ir ⟨ifaceOf Go.Proofs.Try.prog 106, by kernel_rfl⟩
theorem uh111 : UndH Go.Proofs.Try.prog 111 (.pair .sr (.one .sr)) := undH_struct ⟨structOf Go.Proofs.Try.prog 111, by kernel_rfl, fieldsH_of (l := [(0, 31), (1, 31)]) (by kernel_rfl) ⟨⟨rfl, sh31⟩, ⟨rfl, sh31⟩⟩⟩ rfl
theorem uh112 : UndH Go.Proofs.Try.prog 112 .sr := undH_sr ⟨60, by kernel_rfl⟩
theorem uh118 : UndH Go.Proofs.Try.prog 118 (.pair .sr (.one .sr)) := undH_struct ⟨structOf Go.Proofs.Try.prog 118, by kernel_rfl, fieldsH_of (l := [(0, 45), (1, 45)]) (by kernel_rfl) ⟨⟨rfl, sh45⟩, ⟨rfl, sh45⟩⟩⟩ rfl
theorem uh120 : UndH Go.Proofs.Try.prog 120 (.pair .sr (.one .sr)) := undH_struct ⟨structOf Go.Proofs.Try.prog 120, by kernel_rfl, fieldsH_of (l := [(0, 55), (1, 55)]) (by kernel_rfl) ⟨⟨rfl, sh55⟩, ⟨rfl, sh55⟩⟩⟩ rfl
theorem uh123 : UndH Go.Proofs.Try.prog 123 .pr := undH_pr ⟨125, by kernel_rfl⟩
theorem uh125 : UndH Go.Proofs.Try.prog 125 (.p TS4) := undH_struct ⟨structOf Go.Proofs.Try.prog 125, by kernel_rfl, fieldsH_ofP (l := [(0, 9)]) (by kernel_rfl) ⟨rfl, sh9⟩⟩ rfl
theorem uh129 : UndH Go.Proofs.Try.prog 129 .ir := undH_ir ⟨ifaceOf Go.Proofs.Try.prog 129, by kernel_rfl⟩
theorem uh130 : UndH Go.Proofs.Try.prog 130 .sr := undH_sr ⟨154, by kernel_rfl⟩
theorem uh131 : UndH Go.Proofs.Try.prog 131 .sr := undH_sr ⟨154, by kernel_rfl⟩
theorem uh136 : UndH Go.Proofs.Try.prog 136 (.p (.int .u64)) := undH_p rfl
theorem uh139 : UndH Go.Proofs.Try.prog 139 .pr := undH_pr ⟨144, by kernel_rfl⟩
theorem uh141 : UndH Go.Proofs.Try.prog 141 (.one .sr) := undH_struct ⟨structOf Go.Proofs.Try.prog 141, by kernel_rfl, fieldsH_of (l := [(0, 112)]) (by kernel_rfl) ⟨rfl, sh112⟩⟩ rfl
theorem uh144 : UndH Go.Proofs.Try.prog 144 (.pair .ir (.pair (.one .sr) (.pair (.one .sr) (.pair (.p (.int .i64)) (.pair (.p (.int .i64)) (.pair (.p (.int .i64)) (.pair (.p (.int .i64)) (.pair (.p (.int .i64)) (.one (.p (.int .i64))))))))))) := undH_struct ⟨structOf Go.Proofs.Try.prog 144, by kernel_rfl, fieldsH_of (l := [(0, 129), (1, 141), (2, 141), (3, 3), (4, 3), (5, 3), (6, 3), (7, 3), (8, 3)]) (by kernel_rfl) ⟨⟨rfl, sh129⟩, ⟨⟨rfl, sh141⟩, ⟨⟨rfl, sh141⟩, ⟨⟨rfl, sh3⟩, ⟨⟨rfl, sh3⟩, ⟨⟨rfl, sh3⟩, ⟨⟨rfl, sh3⟩, ⟨⟨rfl, sh3⟩, ⟨rfl, sh3⟩⟩⟩⟩⟩⟩⟩⟩⟩⟩ rfl
theorem uh154 : UndH Go.Proofs.Try.prog 154 (.p TS2) := undH_struct ⟨structOf Go.Proofs.Try.prog 154, by kernel_rfl, fieldsH_ofP (l := [(0, 3), (1, 3), (2, 3)]) (by kernel_rfl) ⟨⟨rfl, sh3⟩, ⟨⟨rfl, sh3⟩, ⟨rfl, sh3⟩⟩⟩⟩ rfl
theorem uh158 : UndH Go.Proofs.Try.prog 158 (.p (.int .i64)) := undH_p rfl
theorem tab_hty (n : TypeId) (t : HTy) (h : T.hty n = some t) : SzH Go.Proofs.Try.prog n t ∧ UndH Go.Proofs.Try.prog n t := by
  unfold T at h
  dsimp only at h
  split at h
  · cases h; exact ⟨sh2, uh2⟩
  · cases h; exact ⟨sh3, uh3⟩
  · cases h; exact ⟨sh5, uh5⟩
  · cases h; exact ⟨sh9, uh9⟩
  · cases h; exact ⟨sh21, uh21⟩
  · cases h; exact ⟨sh24, uh24⟩
  · cases h; exact ⟨sh26, uh26⟩
  · cases h; exact ⟨sh31, uh31⟩
  · cases h; exact ⟨sh36, uh36⟩
  · cases h; exact ⟨sh41, uh41⟩
  · cases h; exact ⟨sh45, uh45⟩
  · cases h; exact ⟨sh55, uh55⟩
  · cases h; exact ⟨sh57, uh57⟩
  · cases h; exact ⟨sh60, uh60⟩
  · cases h; exact ⟨sh63, uh63⟩
  · cases h; exact ⟨sh74, uh74⟩
  · cases h; exact ⟨sh82, uh82⟩
  · cases h; exact ⟨sh85, uh85⟩
  · cases h; exact ⟨sh88, uh88⟩
  · cases h; exact ⟨sh106, uh106⟩
  · cases h; exact ⟨sh111, uh111⟩
  · cases h; exact ⟨sh112, uh112⟩
  · cases h; exact ⟨sh118, uh118⟩
  · cases h; exact ⟨sh120, uh120⟩
  · cases h; exact ⟨sh123, uh123⟩
  · cases h; exact ⟨sh125, uh125⟩
  · cases h; exact ⟨sh129, uh129⟩
  · cases h; exact ⟨sh130, uh130⟩
  · cases h; exact ⟨sh131, uh131⟩
  · cases h; exact ⟨sh136, uh136⟩
  · cases h; exact ⟨sh139, uh139⟩
  · cases h; exact ⟨sh141, uh141⟩
  · cases h; exact ⟨sh144, uh144⟩
  · cases h; exact ⟨sh154, uh154⟩
  · cases h; exact ⟨sh158, uh158⟩
  · cases h
theorem tab_hsl (n : TypeId) (t : HTy) (e : TypeId) (h : T.hsl n = some (t, e)) : Go.Proofs.Try.prog.underlying n = some (.slice e) ∧ SzH Go.Proofs.Try.prog e t := by
  unfold T at h
  dsimp only at h
  split at h
  · cases h; exact ⟨by kernel_rfl, sh41⟩
  · cases h; exact ⟨by kernel_rfl, sh36⟩
  · cases h; exact ⟨by kernel_rfl, sh9⟩
  · cases h; exact ⟨by kernel_rfl, sh5⟩
  · cases h; exact ⟨by kernel_rfl, sh21⟩
  · cases h; exact ⟨by kernel_rfl, sh74⟩
  · cases h; exact ⟨by kernel_rfl, sh3⟩
  · cases h; exact ⟨by kernel_rfl, sh74⟩
  · cases h; exact ⟨by kernel_rfl, sh88⟩
  · cases h; exact ⟨by kernel_rfl, sh60⟩
  · cases h; exact ⟨by kernel_rfl, sh154⟩
  · cases h; exact ⟨by kernel_rfl, sh154⟩
  · cases h
theorem meth_Error_123 : MethOk Go.Proofs.Try.prog 123 "Error" 144 := by
  intro k v w
  kernel_rfl
theorem meth_Len_82 : MethOk Go.Proofs.Try.prog 82 "Len" 125 := by
  intro k v w
  kernel_rfl
theorem meth_Less_82 : MethOk Go.Proofs.Try.prog 82 "Less" 126 := by
  intro k v w
  kernel_rfl
theorem meth_Swap_82 : MethOk Go.Proofs.Try.prog 82 "Swap" 127 := by
  intro k v w
  kernel_rfl
theorem meth_pub_emendator_pub_udiff_lcs_commonPrefixLen_111 : MethOk Go.Proofs.Try.prog 111 "pub-emendator/pub/udiff/lcs.commonPrefixLen" 129 := by
  intro k v w
  kernel_rfl
theorem meth_pub_emendator_pub_udiff_lcs_commonPrefixLen_118 : MethOk Go.Proofs.Try.prog 118 "pub-emendator/pub/udiff/lcs.commonPrefixLen" 134 := by
  intro k v w
  kernel_rfl
theorem meth_pub_emendator_pub_udiff_lcs_commonPrefixLen_120 : MethOk Go.Proofs.Try.prog 120 "pub-emendator/pub/udiff/lcs.commonPrefixLen" 139 := by
  intro k v w
  kernel_rfl
theorem meth_pub_emendator_pub_udiff_lcs_commonSuffixLen_111 : MethOk Go.Proofs.Try.prog 111 "pub-emendator/pub/udiff/lcs.commonSuffixLen" 130 := by
  intro k v w
  kernel_rfl
theorem meth_pub_emendator_pub_udiff_lcs_commonSuffixLen_118 : MethOk Go.Proofs.Try.prog 118 "pub-emendator/pub/udiff/lcs.commonSuffixLen" 135 := by
  intro k v w
  kernel_rfl
theorem meth_pub_emendator_pub_udiff_lcs_commonSuffixLen_120 : MethOk Go.Proofs.Try.prog 120 "pub-emendator/pub/udiff/lcs.commonSuffixLen" 140 := by
  intro k v w
  kernel_rfl
theorem meth_pub_emendator_pub_udiff_lcs_lengths_111 : MethOk Go.Proofs.Try.prog 111 "pub-emendator/pub/udiff/lcs.lengths" 131 := by
  intro k v w
  kernel_rfl
theorem meth_pub_emendator_pub_udiff_lcs_lengths_118 : MethOk Go.Proofs.Try.prog 118 "pub-emendator/pub/udiff/lcs.lengths" 136 := by
  intro k v w
  kernel_rfl
theorem meth_pub_emendator_pub_udiff_lcs_lengths_120 : MethOk Go.Proofs.Try.prog 120 "pub-emendator/pub/udiff/lcs.lengths" 141 := by
  intro k v w
  kernel_rfl
theorem tab_meth (name : String) (t : TypeId) (f : FuncId) (h : (t, f) ∈ T.meth name) : MethOk Go.Proofs.Try.prog t name f := by
  unfold T at h
  dsimp only at h
  split at h
  · simp only [List.mem_cons, List.not_mem_nil, or_false, Prod.mk.injEq] at h
    obtain ⟨rfl, rfl⟩ := h
    exact meth_Error_123
  · simp only [List.mem_cons, List.not_mem_nil, or_false, Prod.mk.injEq] at h
    obtain ⟨rfl, rfl⟩ := h
    exact meth_Len_82
  · simp only [List.mem_cons, List.not_mem_nil, or_false, Prod.mk.injEq] at h
    obtain ⟨rfl, rfl⟩ := h
    exact meth_Less_82
  · simp only [List.mem_cons, List.not_mem_nil, or_false, Prod.mk.injEq] at h
    obtain ⟨rfl, rfl⟩ := h
    exact meth_Swap_82
  · simp only [List.mem_cons, List.not_mem_nil, or_false, Prod.mk.injEq] at h
    rcases h with ⟨rfl, rfl⟩ | ⟨rfl, rfl⟩ | ⟨rfl, rfl⟩
    · exact meth_pub_emendator_pub_udiff_lcs_commonPrefixLen_111
    · exact meth_pub_emendator_pub_udiff_lcs_commonPrefixLen_118
    · exact meth_pub_emendator_pub_udiff_lcs_commonPrefixLen_120
  · simp only [List.mem_cons, List.not_mem_nil, or_false, Prod.mk.injEq] at h
    rcases h with ⟨rfl, rfl⟩ | ⟨rfl, rfl⟩ | ⟨rfl, rfl⟩
    · exact meth_pub_emendator_pub_udiff_lcs_commonSuffixLen_111
    · exact meth_pub_emendator_pub_udiff_lcs_commonSuffixLen_118
    · exact meth_pub_emendator_pub_udiff_lcs_commonSuffixLen_120
  · simp only [List.mem_cons, List.not_mem_nil, or_false, Prod.mk.injEq] at h
    rcases h with ⟨rfl, rfl⟩ | ⟨rfl, rfl⟩ | ⟨rfl, rfl⟩
    · exact meth_pub_emendator_pub_udiff_lcs_lengths_111
    · exact meth_pub_emendator_pub_udiff_lcs_lengths_118
    · exact meth_pub_emendator_pub_udiff_lcs_lengths_120
  · cases h
theorem tabOk : TabOk Go.Proofs.Try.prog T := ⟨tab_ty, tab_sl, tab_eq, ltI_eq, leI_eq, eqI_eq, nleI_eq, eqS_eq, i2fI_eq, f2iI_eq, foI_eq, faI_eq, tab_hty, tab_hsl, tab_meth⟩
theorem fn3 : Go.Proofs.Try.prog.funcs[3]? = some Go.Proofs.Try.f3 ∧ fnOk (T.loc 3) (sg 3) Go.Proofs.Try.f3 = true := ⟨Go.Proofs.Try.func3, by kernel_rfl⟩
theorem fn4 : Go.Proofs.Try.prog.funcs[4]? = some Go.Proofs.Try.f4 ∧ fnOk (T.loc 4) (sg 4) Go.Proofs.Try.f4 = true := ⟨Go.Proofs.Try.func4, by kernel_rfl⟩
theorem fn5 : Go.Proofs.Try.prog.funcs[5]? = some Go.Proofs.Try.f5 ∧ fnOk (T.loc 5) (sg 5) Go.Proofs.Try.f5 = true := ⟨Go.Proofs.Try.func5, by kernel_rfl⟩
theorem fn6 : Go.Proofs.Try.prog.funcs[6]? = some Go.Proofs.Try.f6 ∧ fnOk (T.loc 6) (sg 6) Go.Proofs.Try.f6 = true := ⟨Go.Proofs.Try.func6, by kernel_rfl⟩
theorem fn7 : Go.Proofs.Try.prog.funcs[7]? = some Go.Proofs.Try.f7 ∧ fnOk (T.loc 7) (sg 7) Go.Proofs.Try.f7 = true := ⟨Go.Proofs.Try.func7, by kernel_rfl⟩
theorem fn8 : Go.Proofs.Try.prog.funcs[8]? = some Go.Proofs.Try.f8 ∧ fnOk (T.loc 8) (sg 8) Go.Proofs.Try.f8 = true := ⟨Go.Proofs.Try.func8, by kernel_rfl⟩
theorem fn9 : Go.Proofs.Try.prog.funcs[9]? = some Go.Proofs.Try.f9 ∧ fnOk (T.loc 9) (sg 9) Go.Proofs.Try.f9 = true := ⟨Go.Proofs.Try.func9, by kernel_rfl⟩
theorem fn10 : Go.Proofs.Try.prog.funcs[10]? = some Go.Proofs.Try.f10 ∧ fnOk (T.loc 10) (sg 10) Go.Proofs.Try.f10 = true := ⟨Go.Proofs.Try.func10, by kernel_rfl⟩
theorem fn12 : Go.Proofs.Try.prog.funcs[12]? = some Go.Proofs.Try.f12 ∧ fnOk (T.loc 12) (sg 12) Go.Proofs.Try.f12 = true := ⟨Go.Proofs.Try.func12, by kernel_rfl⟩
theorem fn13 : Go.Proofs.Try.prog.funcs[13]? = some Go.Proofs.Try.f13 ∧ fnOk (T.loc 13) (sg 13) Go.Proofs.Try.f13 = true := ⟨Go.Proofs.Try.func13, by kernel_rfl⟩
theorem fn14 : Go.Proofs.Try.prog.funcs[14]? = some Go.Proofs.Try.f14 ∧ fnOk (T.loc 14) (sg 14) Go.Proofs.Try.f14 = true := ⟨Go.Proofs.Try.func14, by kernel_rfl⟩
theorem fn15 : Go.Proofs.Try.prog.funcs[15]? = some Go.Proofs.Try.f15 ∧ fnOk (T.loc 15) (sg 15) Go.Proofs.Try.f15 = true := ⟨Go.Proofs.Try.func15, by kernel_rfl⟩
theorem fn16 : Go.Proofs.Try.prog.funcs[16]? = some Go.Proofs.Try.f16 ∧ fnOk (T.loc 16) (sg 16) Go.Proofs.Try.f16 = true := ⟨Go.Proofs.Try.func16, by kernel_rfl⟩
theorem fn17 : Go.Proofs.Try.prog.funcs[17]? = some Go.Proofs.Try.f17 ∧ fnOk (T.loc 17) (sg 17) Go.Proofs.Try.f17 = true := ⟨Go.Proofs.Try.func17, by kernel_rfl⟩
theorem fn18 : Go.Proofs.Try.prog.funcs[18]? = some Go.Proofs.Try.f18 ∧ fnOk (T.loc 18) (sg 18) Go.Proofs.Try.f18 = true := ⟨Go.Proofs.Try.func18, by kernel_rfl⟩
theorem fn19 : Go.Proofs.Try.prog.funcs[19]? = some Go.Proofs.Try.f19 ∧ fnOk (T.loc 19) (sg 19) Go.Proofs.Try.f19 = true := ⟨Go.Proofs.Try.func19, by kernel_rfl⟩
theorem fn20 : Go.Proofs.Try.prog.funcs[20]? = some Go.Proofs.Try.f20 ∧ fnOk (T.loc 20) (sg 20) Go.Proofs.Try.f20 = true := ⟨Go.Proofs.Try.func20, by kernel_rfl⟩
theorem fn21 : Go.Proofs.Try.prog.funcs[21]? = some Go.Proofs.Try.f21 ∧ fnOk (T.loc 21) (sg 21) Go.Proofs.Try.f21 = true := ⟨Go.Proofs.Try.func21, by kernel_rfl⟩
theorem fn22 : Go.Proofs.Try.prog.funcs[22]? = some Go.Proofs.Try.f22 ∧ fnOk (T.loc 22) (sg 22) Go.Proofs.Try.f22 = true := ⟨Go.Proofs.Try.func22, by kernel_rfl⟩
theorem fn23 : Go.Proofs.Try.prog.funcs[23]? = some Go.Proofs.Try.f23 ∧ fnOk (T.loc 23) (sg 23) Go.Proofs.Try.f23 = true := ⟨Go.Proofs.Try.func23, by kernel_rfl⟩
theorem fn24 : Go.Proofs.Try.prog.funcs[24]? = some Go.Proofs.Try.f24 ∧ fnOk (T.loc 24) (sg 24) Go.Proofs.Try.f24 = true := ⟨Go.Proofs.Try.func24, by kernel_rfl⟩
theorem fn25 : Go.Proofs.Try.prog.funcs[25]? = some Go.Proofs.Try.f25 ∧ fnOk (T.loc 25) (sg 25) Go.Proofs.Try.f25 = true := ⟨Go.Proofs.Try.func25, by kernel_rfl⟩
theorem fn26 : Go.Proofs.Try.prog.funcs[26]? = some Go.Proofs.Try.f26 ∧ fnOk (T.loc 26) (sg 26) Go.Proofs.Try.f26 = true := ⟨Go.Proofs.Try.func26, by kernel_rfl⟩
theorem fn27 : Go.Proofs.Try.prog.funcs[27]? = some Go.Proofs.Try.f27 ∧ fnOk (T.loc 27) (sg 27) Go.Proofs.Try.f27 = true := ⟨Go.Proofs.Try.func27, by kernel_rfl⟩
theorem fn28 : Go.Proofs.Try.prog.funcs[28]? = some Go.Proofs.Try.f28 ∧ fnOk (T.loc 28) (sg 28) Go.Proofs.Try.f28 = true := ⟨Go.Proofs.Try.func28, by kernel_rfl⟩
theorem fn29 : Go.Proofs.Try.prog.funcs[29]? = some Go.Proofs.Try.f29 ∧ fnOk (T.loc 29) (sg 29) Go.Proofs.Try.f29 = true := ⟨Go.Proofs.Try.func29, by kernel_rfl⟩
theorem fn30 : Go.Proofs.Try.prog.funcs[30]? = some Go.Proofs.Try.f30 ∧ fnOk (T.loc 30) (sg 30) Go.Proofs.Try.f30 = true := ⟨Go.Proofs.Try.func30, by kernel_rfl⟩
theorem fn31 : Go.Proofs.Try.prog.funcs[31]? = some Go.Proofs.Try.f31 ∧ fnOk (T.loc 31) (sg 31) Go.Proofs.Try.f31 = true := ⟨Go.Proofs.Try.func31, by kernel_rfl⟩
theorem fn32 : Go.Proofs.Try.prog.funcs[32]? = some Go.Proofs.Try.f32 ∧ fnOk (T.loc 32) (sg 32) Go.Proofs.Try.f32 = true := ⟨Go.Proofs.Try.func32, by kernel_rfl⟩
theorem fn33 : Go.Proofs.Try.prog.funcs[33]? = some Go.Proofs.Try.f33 ∧ fnOk (T.loc 33) (sg 33) Go.Proofs.Try.f33 = true := ⟨Go.Proofs.Try.func33, by kernel_rfl⟩
theorem fn34 : Go.Proofs.Try.prog.funcs[34]? = some Go.Proofs.Try.f34 ∧ fnOk (T.loc 34) (sg 34) Go.Proofs.Try.f34 = true := ⟨Go.Proofs.Try.func34, by kernel_rfl⟩
theorem fn35 : Go.Proofs.Try.prog.funcs[35]? = some Go.Proofs.Try.f35 ∧ fnOk (T.loc 35) (sg 35) Go.Proofs.Try.f35 = true := ⟨Go.Proofs.Try.func35, by kernel_rfl⟩
theorem fn36 : Go.Proofs.Try.prog.funcs[36]? = some Go.Proofs.Try.f36 ∧ fnOk (T.loc 36) (sg 36) Go.Proofs.Try.f36 = true := ⟨Go.Proofs.Try.func36, by kernel_rfl⟩
theorem fn38 : Go.Proofs.Try.prog.funcs[38]? = some Go.Proofs.Try.f38 ∧ fnOk (T.loc 38) (sg 38) Go.Proofs.Try.f38 = true := ⟨Go.Proofs.Try.func38, by kernel_rfl⟩
theorem fn39 : Go.Proofs.Try.prog.funcs[39]? = some Go.Proofs.Try.f39 ∧ fnOk (T.loc 39) (sg 39) Go.Proofs.Try.f39 = true := ⟨Go.Proofs.Try.func39, by kernel_rfl⟩
theorem fn40 : Go.Proofs.Try.prog.funcs[40]? = some Go.Proofs.Try.f40 ∧ fnOk (T.loc 40) (sg 40) Go.Proofs.Try.f40 = true := ⟨Go.Proofs.Try.func40, by kernel_rfl⟩
theorem fn41 : Go.Proofs.Try.prog.funcs[41]? = some Go.Proofs.Try.f41 ∧ fnOk (T.loc 41) (sg 41) Go.Proofs.Try.f41 = true := ⟨Go.Proofs.Try.func41, by kernel_rfl⟩
theorem fn42 : Go.Proofs.Try.prog.funcs[42]? = some Go.Proofs.Try.f42 ∧ fnOk (T.loc 42) (sg 42) Go.Proofs.Try.f42 = true := ⟨Go.Proofs.Try.func42, by kernel_rfl⟩
theorem fn43 : Go.Proofs.Try.prog.funcs[43]? = some Go.Proofs.Try.f43 ∧ fnOk (T.loc 43) (sg 43) Go.Proofs.Try.f43 = true := ⟨Go.Proofs.Try.func43, by kernel_rfl⟩
theorem fn44 : Go.Proofs.Try.prog.funcs[44]? = some Go.Proofs.Try.f44 ∧ fnOk (T.loc 44) (sg 44) Go.Proofs.Try.f44 = true := ⟨Go.Proofs.Try.func44, by kernel_rfl⟩
theorem fn45 : Go.Proofs.Try.prog.funcs[45]? = some Go.Proofs.Try.f45 ∧ fnOk (T.loc 45) (sg 45) Go.Proofs.Try.f45 = true := ⟨Go.Proofs.Try.func45, by kernel_rfl⟩
theorem fn46 : Go.Proofs.Try.prog.funcs[46]? = some Go.Proofs.Try.f46 ∧ fnOk (T.loc 46) (sg 46) Go.Proofs.Try.f46 = true := ⟨Go.Proofs.Try.func46, by kernel_rfl⟩
theorem fn47 : Go.Proofs.Try.prog.funcs[47]? = some Go.Proofs.Try.f47 ∧ fnOk (T.loc 47) (sg 47) Go.Proofs.Try.f47 = true := ⟨Go.Proofs.Try.func47, by kernel_rfl⟩
theorem fn48 : Go.Proofs.Try.prog.funcs[48]? = some Go.Proofs.Try.f48 ∧ fnOk (T.loc 48) (sg 48) Go.Proofs.Try.f48 = true := ⟨Go.Proofs.Try.func48, by kernel_rfl⟩
theorem fn49 : Go.Proofs.Try.prog.funcs[49]? = some Go.Proofs.Try.f49 ∧ fnOk (T.loc 49) (sg 49) Go.Proofs.Try.f49 = true := ⟨Go.Proofs.Try.func49, by kernel_rfl⟩
theorem fn51 : Go.Proofs.Try.prog.funcs[51]? = some Go.Proofs.Try.f51 ∧ fnOk (T.loc 51) (sg 51) Go.Proofs.Try.f51 = true := ⟨Go.Proofs.Try.func51, by kernel_rfl⟩
theorem fn52 : Go.Proofs.Try.prog.funcs[52]? = some Go.Proofs.Try.f52 ∧ fnOk (T.loc 52) (sg 52) Go.Proofs.Try.f52 = true := ⟨Go.Proofs.Try.func52, by kernel_rfl⟩
theorem fn53 : Go.Proofs.Try.prog.funcs[53]? = some Go.Proofs.Try.f53 ∧ fnOk (T.loc 53) (sg 53) Go.Proofs.Try.f53 = true := ⟨Go.Proofs.Try.func53, by kernel_rfl⟩
theorem fn54 : Go.Proofs.Try.prog.funcs[54]? = some Go.Proofs.Try.f54 ∧ fnOk (T.loc 54) (sg 54) Go.Proofs.Try.f54 = true := ⟨Go.Proofs.Try.func54, by kernel_rfl⟩
theorem fn55 : Go.Proofs.Try.prog.funcs[55]? = some Go.Proofs.Try.f55 ∧ fnOk (T.loc 55) (sg 55) Go.Proofs.Try.f55 = true := ⟨Go.Proofs.Try.func55, by kernel_rfl⟩
theorem fn56 : Go.Proofs.Try.prog.funcs[56]? = some Go.Proofs.Try.f56 ∧ fnOk (T.loc 56) (sg 56) Go.Proofs.Try.f56 = true := ⟨Go.Proofs.Try.func56, by kernel_rfl⟩
theorem fn57 : Go.Proofs.Try.prog.funcs[57]? = some Go.Proofs.Try.f57 ∧ fnOk (T.loc 57) (sg 57) Go.Proofs.Try.f57 = true := ⟨Go.Proofs.Try.func57, by kernel_rfl⟩
theorem fn58 : Go.Proofs.Try.prog.funcs[58]? = some Go.Proofs.Try.f58 ∧ fnOk (T.loc 58) (sg 58) Go.Proofs.Try.f58 = true := ⟨Go.Proofs.Try.func58, by kernel_rfl⟩
theorem fn59 : Go.Proofs.Try.prog.funcs[59]? = some Go.Proofs.Try.f59 ∧ fnOk (T.loc 59) (sg 59) Go.Proofs.Try.f59 = true := ⟨Go.Proofs.Try.func59, by kernel_rfl⟩
theorem fn60 : Go.Proofs.Try.prog.funcs[60]? = some Go.Proofs.Try.f60 ∧ fnOk (T.loc 60) (sg 60) Go.Proofs.Try.f60 = true := ⟨Go.Proofs.Try.func60, by kernel_rfl⟩
theorem fn64 : Go.Proofs.Try.prog.funcs[64]? = some Go.Proofs.Try.f64 ∧ fnOk (T.loc 64) (sg 64) Go.Proofs.Try.f64 = true := ⟨Go.Proofs.Try.func64, by kernel_rfl⟩
theorem fn65 : Go.Proofs.Try.prog.funcs[65]? = some Go.Proofs.Try.f65 ∧ fnOk (T.loc 65) (sg 65) Go.Proofs.Try.f65 = true := ⟨Go.Proofs.Try.func65, by kernel_rfl⟩
theorem fn66 : Go.Proofs.Try.prog.funcs[66]? = some Go.Proofs.Try.f66 ∧ fnOk (T.loc 66) (sg 66) Go.Proofs.Try.f66 = true := ⟨Go.Proofs.Try.func66, by kernel_rfl⟩
theorem fn67 : Go.Proofs.Try.prog.funcs[67]? = some Go.Proofs.Try.f67 ∧ fnOk (T.loc 67) (sg 67) Go.Proofs.Try.f67 = true := ⟨Go.Proofs.Try.func67, by kernel_rfl⟩
theorem fn68 : Go.Proofs.Try.prog.funcs[68]? = some Go.Proofs.Try.f68 ∧ fnOk (T.loc 68) (sg 68) Go.Proofs.Try.f68 = true := ⟨Go.Proofs.Try.func68, by kernel_rfl⟩
theorem fn69 : Go.Proofs.Try.prog.funcs[69]? = some Go.Proofs.Try.f69 ∧ fnOk (T.loc 69) (sg 69) Go.Proofs.Try.f69 = true := ⟨Go.Proofs.Try.func69, by kernel_rfl⟩
theorem fn70 : Go.Proofs.Try.prog.funcs[70]? = some Go.Proofs.Try.f70 ∧ fnOk (T.loc 70) (sg 70) Go.Proofs.Try.f70 = true := ⟨Go.Proofs.Try.func70, by kernel_rfl⟩
theorem fn75 : Go.Proofs.Try.prog.funcs[75]? = some Go.Proofs.Try.f75 ∧ fnOk (T.loc 75) (sg 75) Go.Proofs.Try.f75 = true := ⟨Go.Proofs.Try.func75, by kernel_rfl⟩
theorem fn76 : Go.Proofs.Try.prog.funcs[76]? = some Go.Proofs.Try.f76 ∧ fnOk (T.loc 76) (sg 76) Go.Proofs.Try.f76 = true := ⟨Go.Proofs.Try.func76, by kernel_rfl⟩
theorem fn77 : Go.Proofs.Try.prog.funcs[77]? = some Go.Proofs.Try.f77 ∧ fnOk (T.loc 77) (sg 77) Go.Proofs.Try.f77 = true := ⟨Go.Proofs.Try.func77, by kernel_rfl⟩
theorem fn78 : Go.Proofs.Try.prog.funcs[78]? = some Go.Proofs.Try.f78 ∧ fnOk (T.loc 78) (sg 78) Go.Proofs.Try.f78 = true := ⟨Go.Proofs.Try.func78, by kernel_rfl⟩
theorem fn79 : Go.Proofs.Try.prog.funcs[79]? = some Go.Proofs.Try.f79 ∧ fnOk (T.loc 79) (sg 79) Go.Proofs.Try.f79 = true := ⟨Go.Proofs.Try.func79, by kernel_rfl⟩
theorem fn80 : Go.Proofs.Try.prog.funcs[80]? = some Go.Proofs.Try.f80 ∧ fnOk (T.loc 80) (sg 80) Go.Proofs.Try.f80 = true := ⟨Go.Proofs.Try.func80, by kernel_rfl⟩
theorem fn81 : Go.Proofs.Try.prog.funcs[81]? = some Go.Proofs.Try.f81 ∧ fnOk (T.loc 81) (sg 81) Go.Proofs.Try.f81 = true := ⟨Go.Proofs.Try.func81, by kernel_rfl⟩
theorem fn82 : Go.Proofs.Try.prog.funcs[82]? = some Go.Proofs.Try.f82 ∧ fnOk (T.loc 82) (sg 82) Go.Proofs.Try.f82 = true := ⟨Go.Proofs.Try.func82, by kernel_rfl⟩
theorem fn83 : Go.Proofs.Try.prog.funcs[83]? = some Go.Proofs.Try.f83 ∧ fnOk (T.loc 83) (sg 83) Go.Proofs.Try.f83 = true := ⟨Go.Proofs.Try.func83, by kernel_rfl⟩
theorem fn84 : Go.Proofs.Try.prog.funcs[84]? = some Go.Proofs.Try.f84 ∧ fnOk (T.loc 84) (sg 84) Go.Proofs.Try.f84 = true := ⟨Go.Proofs.Try.func84, by kernel_rfl⟩
theorem fn85 : Go.Proofs.Try.prog.funcs[85]? = some Go.Proofs.Try.f85 ∧ fnOk (T.loc 85) (sg 85) Go.Proofs.Try.f85 = true := ⟨Go.Proofs.Try.func85, by kernel_rfl⟩
theorem fn86 : Go.Proofs.Try.prog.funcs[86]? = some Go.Proofs.Try.f86 ∧ fnOk (T.loc 86) (sg 86) Go.Proofs.Try.f86 = true := ⟨Go.Proofs.Try.func86, by kernel_rfl⟩
theorem fn87 : Go.Proofs.Try.prog.funcs[87]? = some Go.Proofs.Try.f87 ∧ fnOk (T.loc 87) (sg 87) Go.Proofs.Try.f87 = true := ⟨Go.Proofs.Try.func87, by kernel_rfl⟩
theorem fn88 : Go.Proofs.Try.prog.funcs[88]? = some Go.Proofs.Try.f88 ∧ fnOk (T.loc 88) (sg 88) Go.Proofs.Try.f88 = true := ⟨Go.Proofs.Try.func88, by kernel_rfl⟩
theorem fn89 : Go.Proofs.Try.prog.funcs[89]? = some Go.Proofs.Try.f89 ∧ fnOk (T.loc 89) (sg 89) Go.Proofs.Try.f89 = true := ⟨Go.Proofs.Try.func89, by kernel_rfl⟩
theorem fn90 : Go.Proofs.Try.prog.funcs[90]? = some Go.Proofs.Try.f90 ∧ fnOk (T.loc 90) (sg 90) Go.Proofs.Try.f90 = true := ⟨Go.Proofs.Try.func90, by kernel_rfl⟩
theorem fn91 : Go.Proofs.Try.prog.funcs[91]? = some Go.Proofs.Try.f91 ∧ fnOk (T.loc 91) (sg 91) Go.Proofs.Try.f91 = true := ⟨Go.Proofs.Try.func91, by kernel_rfl⟩
theorem fn92 : Go.Proofs.Try.prog.funcs[92]? = some Go.Proofs.Try.f92 ∧ fnOk (T.loc 92) (sg 92) Go.Proofs.Try.f92 = true := ⟨Go.Proofs.Try.func92, by kernel_rfl⟩
theorem fn93 : Go.Proofs.Try.prog.funcs[93]? = some Go.Proofs.Try.f93 ∧ fnOk (T.loc 93) (sg 93) Go.Proofs.Try.f93 = true := ⟨Go.Proofs.Try.func93, by kernel_rfl⟩
theorem fn94 : Go.Proofs.Try.prog.funcs[94]? = some Go.Proofs.Try.f94 ∧ fnOk (T.loc 94) (sg 94) Go.Proofs.Try.f94 = true := ⟨Go.Proofs.Try.func94, by kernel_rfl⟩
theorem fn95 : Go.Proofs.Try.prog.funcs[95]? = some Go.Proofs.Try.f95 ∧ fnOk (T.loc 95) (sg 95) Go.Proofs.Try.f95 = true := ⟨Go.Proofs.Try.func95, by kernel_rfl⟩
theorem fn96 : Go.Proofs.Try.prog.funcs[96]? = some Go.Proofs.Try.f96 ∧ fnOk (T.loc 96) (sg 96) Go.Proofs.Try.f96 = true := ⟨Go.Proofs.Try.func96, by kernel_rfl⟩
theorem fn97 : Go.Proofs.Try.prog.funcs[97]? = some Go.Proofs.Try.f97 ∧ fnOk (T.loc 97) (sg 97) Go.Proofs.Try.f97 = true := ⟨Go.Proofs.Try.func97, by kernel_rfl⟩
theorem fn98 : Go.Proofs.Try.prog.funcs[98]? = some Go.Proofs.Try.f98 ∧ fnOk (T.loc 98) (sg 98) Go.Proofs.Try.f98 = true := ⟨Go.Proofs.Try.func98, by kernel_rfl⟩
theorem fn99 : Go.Proofs.Try.prog.funcs[99]? = some Go.Proofs.Try.f99 ∧ fnOk (T.loc 99) (sg 99) Go.Proofs.Try.f99 = true := ⟨Go.Proofs.Try.func99, by kernel_rfl⟩
theorem fn100 : Go.Proofs.Try.prog.funcs[100]? = some Go.Proofs.Try.f100 ∧ fnOk (T.loc 100) (sg 100) Go.Proofs.Try.f100 = true := ⟨Go.Proofs.Try.func100, by kernel_rfl⟩
theorem fn101 : Go.Proofs.Try.prog.funcs[101]? = some Go.Proofs.Try.f101 ∧ fnOk (T.loc 101) (sg 101) Go.Proofs.Try.f101 = true := ⟨Go.Proofs.Try.func101, by kernel_rfl⟩
theorem fn102 : Go.Proofs.Try.prog.funcs[102]? = some Go.Proofs.Try.f102 ∧ fnOk (T.loc 102) (sg 102) Go.Proofs.Try.f102 = true := ⟨Go.Proofs.Try.func102, by kernel_rfl⟩
theorem fn103 : Go.Proofs.Try.prog.funcs[103]? = some Go.Proofs.Try.f103 ∧ fnOk (T.loc 103) (sg 103) Go.Proofs.Try.f103 = true := ⟨Go.Proofs.Try.func103, by kernel_rfl⟩
theorem fn104 : Go.Proofs.Try.prog.funcs[104]? = some Go.Proofs.Try.f104 ∧ fnOk (T.loc 104) (sg 104) Go.Proofs.Try.f104 = true := ⟨Go.Proofs.Try.func104, by kernel_rfl⟩
theorem fn105 : Go.Proofs.Try.prog.funcs[105]? = some Go.Proofs.Try.f105 ∧ fnOk (T.loc 105) (sg 105) Go.Proofs.Try.f105 = true := ⟨Go.Proofs.Try.func105, by kernel_rfl⟩
theorem fn106 : Go.Proofs.Try.prog.funcs[106]? = some Go.Proofs.Try.f106 ∧ fnOk (T.loc 106) (sg 106) Go.Proofs.Try.f106 = true := ⟨Go.Proofs.Try.func106, by kernel_rfl⟩
theorem fn107 : Go.Proofs.Try.prog.funcs[107]? = some Go.Proofs.Try.f107 ∧ fnOk (T.loc 107) (sg 107) Go.Proofs.Try.f107 = true := ⟨Go.Proofs.Try.func107, by kernel_rfl⟩
theorem fn125 : Go.Proofs.Try.prog.funcs[125]? = some Go.Proofs.Try.f125 ∧ fnOk (T.loc 125) (sg 125) Go.Proofs.Try.f125 = true := ⟨Go.Proofs.Try.func125, by kernel_rfl⟩
theorem fn126 : Go.Proofs.Try.prog.funcs[126]? = some Go.Proofs.Try.f126 ∧ fnOk (T.loc 126) (sg 126) Go.Proofs.Try.f126 = true := ⟨Go.Proofs.Try.func126, by kernel_rfl⟩
theorem fn127 : Go.Proofs.Try.prog.funcs[127]? = some Go.Proofs.Try.f127 ∧ fnOk (T.loc 127) (sg 127) Go.Proofs.Try.f127 = true := ⟨Go.Proofs.Try.func127, by kernel_rfl⟩
theorem fn129 : Go.Proofs.Try.prog.funcs[129]? = some Go.Proofs.Try.f129 ∧ fnOk (T.loc 129) (sg 129) Go.Proofs.Try.f129 = true := ⟨Go.Proofs.Try.func129, by kernel_rfl⟩
theorem fn130 : Go.Proofs.Try.prog.funcs[130]? = some Go.Proofs.Try.f130 ∧ fnOk (T.loc 130) (sg 130) Go.Proofs.Try.f130 = true := ⟨Go.Proofs.Try.func130, by kernel_rfl⟩
theorem fn131 : Go.Proofs.Try.prog.funcs[131]? = some Go.Proofs.Try.f131 ∧ fnOk (T.loc 131) (sg 131) Go.Proofs.Try.f131 = true := ⟨Go.Proofs.Try.func131, by kernel_rfl⟩
theorem fn132 : Go.Proofs.Try.prog.funcs[132]? = some Go.Proofs.Try.f132 ∧ fnOk (T.loc 132) (sg 132) Go.Proofs.Try.f132 = true := ⟨Go.Proofs.Try.func132, by kernel_rfl⟩
theorem fn133 : Go.Proofs.Try.prog.funcs[133]? = some Go.Proofs.Try.f133 ∧ fnOk (T.loc 133) (sg 133) Go.Proofs.Try.f133 = true := ⟨Go.Proofs.Try.func133, by kernel_rfl⟩
theorem fn134 : Go.Proofs.Try.prog.funcs[134]? = some Go.Proofs.Try.f134 ∧ fnOk (T.loc 134) (sg 134) Go.Proofs.Try.f134 = true := ⟨Go.Proofs.Try.func134, by kernel_rfl⟩
theorem fn135 : Go.Proofs.Try.prog.funcs[135]? = some Go.Proofs.Try.f135 ∧ fnOk (T.loc 135) (sg 135) Go.Proofs.Try.f135 = true := ⟨Go.Proofs.Try.func135, by kernel_rfl⟩
theorem fn136 : Go.Proofs.Try.prog.funcs[136]? = some Go.Proofs.Try.f136 ∧ fnOk (T.loc 136) (sg 136) Go.Proofs.Try.f136 = true := ⟨Go.Proofs.Try.func136, by kernel_rfl⟩
theorem fn137 : Go.Proofs.Try.prog.funcs[137]? = some Go.Proofs.Try.f137 ∧ fnOk (T.loc 137) (sg 137) Go.Proofs.Try.f137 = true := ⟨Go.Proofs.Try.func137, by kernel_rfl⟩
theorem fn138 : Go.Proofs.Try.prog.funcs[138]? = some Go.Proofs.Try.f138 ∧ fnOk (T.loc 138) (sg 138) Go.Proofs.Try.f138 = true := ⟨Go.Proofs.Try.func138, by kernel_rfl⟩
theorem fn139 : Go.Proofs.Try.prog.funcs[139]? = some Go.Proofs.Try.f139 ∧ fnOk (T.loc 139) (sg 139) Go.Proofs.Try.f139 = true := ⟨Go.Proofs.Try.func139, by kernel_rfl⟩
theorem fn140 : Go.Proofs.Try.prog.funcs[140]? = some Go.Proofs.Try.f140 ∧ fnOk (T.loc 140) (sg 140) Go.Proofs.Try.f140 = true := ⟨Go.Proofs.Try.func140, by kernel_rfl⟩
theorem fn141 : Go.Proofs.Try.prog.funcs[141]? = some Go.Proofs.Try.f141 ∧ fnOk (T.loc 141) (sg 141) Go.Proofs.Try.f141 = true := ⟨Go.Proofs.Try.func141, by kernel_rfl⟩
theorem fn142 : Go.Proofs.Try.prog.funcs[142]? = some Go.Proofs.Try.f142 ∧ fnOk (T.loc 142) (sg 142) Go.Proofs.Try.f142 = true := ⟨Go.Proofs.Try.func142, by kernel_rfl⟩
theorem fn143 : Go.Proofs.Try.prog.funcs[143]? = some Go.Proofs.Try.f143 ∧ fnOk (T.loc 143) (sg 143) Go.Proofs.Try.f143 = true := ⟨Go.Proofs.Try.func143, by kernel_rfl⟩
theorem fn144 : Go.Proofs.Try.prog.funcs[144]? = some Go.Proofs.Try.f144 ∧ fnOk (T.loc 144) (sg 144) Go.Proofs.Try.f144 = true := ⟨Go.Proofs.Try.func144, by kernel_rfl⟩
theorem fnOf_ok (f : FuncId) (fn : Func) (h : fnOf f = some fn) : Go.Proofs.Try.prog.funcs[f]? = some fn ∧ fnOk (T.loc f) (sg f) fn = true := by
  unfold fnOf at h
  split at h
  · cases h; exact fn3
  · cases h; exact fn4
  · cases h; exact fn5
  · cases h; exact fn6
  · cases h; exact fn7
  · cases h; exact fn8
  · cases h; exact fn9
  · cases h; exact fn10
  · cases h; exact fn12
  · cases h; exact fn13
  · cases h; exact fn14
  · cases h; exact fn15
  · cases h; exact fn16
  · cases h; exact fn17
  · cases h; exact fn18
  · cases h; exact fn19
  · cases h; exact fn20
  · cases h; exact fn21
  · cases h; exact fn22
  · cases h; exact fn23
  · cases h; exact fn24
  · cases h; exact fn25
  · cases h; exact fn26
  · cases h; exact fn27
  · cases h; exact fn28
  · cases h; exact fn29
  · cases h; exact fn30
  · cases h; exact fn31
  · cases h; exact fn32
  · cases h; exact fn33
  · cases h; exact fn34
  · cases h; exact fn35
  · cases h; exact fn36
  · cases h; exact fn38
  · cases h; exact fn39
  · cases h; exact fn40
  · cases h; exact fn41
  · cases h; exact fn42
  · cases h; exact fn43
  · cases h; exact fn44
  · cases h; exact fn45
  · cases h; exact fn46
  · cases h; exact fn47
  · cases h; exact fn48
  · cases h; exact fn49
  · cases h; exact fn51
  · cases h; exact fn52
  · cases h; exact fn53
  · cases h; exact fn54
  · cases h; exact fn55
  · cases h; exact fn56
  · cases h; exact fn57
  · cases h; exact fn58
  · cases h; exact fn59
  · cases h; exact fn60
  · cases h; exact fn64
  · cases h; exact fn65
  · cases h; exact fn66
  · cases h; exact fn67
  · cases h; exact fn68
  · cases h; exact fn69
  · cases h; exact fn70
  · cases h; exact fn75
  · cases h; exact fn76
  · cases h; exact fn77
  · cases h; exact fn78
  · cases h; exact fn79
  · cases h; exact fn80
  · cases h; exact fn81
  · cases h; exact fn82
  · cases h; exact fn83
  · cases h; exact fn84
  · cases h; exact fn85
  · cases h; exact fn86
  · cases h; exact fn87
  · cases h; exact fn88
  · cases h; exact fn89
  · cases h; exact fn90
  · cases h; exact fn91
  · cases h; exact fn92
  · cases h; exact fn93
  · cases h; exact fn94
  · cases h; exact fn95
  · cases h; exact fn96
  · cases h; exact fn97
  · cases h; exact fn98
  · cases h; exact fn99
  · cases h; exact fn100
  · cases h; exact fn101
  · cases h; exact fn102
  · cases h; exact fn103
  · cases h; exact fn104
  · cases h; exact fn105
  · cases h; exact fn106
  · cases h; exact fn107
  · cases h; exact fn125
  · cases h; exact fn126
  · cases h; exact fn127
  · cases h; exact fn129
  · cases h; exact fn130
  · cases h; exact fn131
  · cases h; exact fn132
  · cases h; exact fn133
  · cases h; exact fn134
  · cases h; exact fn135
  · cases h; exact fn136
  · cases h; exact fn137
  · cases h; exact fn138
  · cases h; exact fn139
  · cases h; exact fn140
  · cases h; exact fn141
  · cases h; exact fn142
  · cases h; exact fn143
  · cases h; exact fn144
  · cases h
theorem callF_ok (W : World) (hx : ∀ f, CallOk Go.Proofs.Try.prog W sg extF f) : ∀ (K : Nat) (f : FuncId), CallOk Go.Proofs.Try.prog W sg (callF K) f
  | 0, f => fun xs r h => by cases h
  | K + 1, f => by
    cases hf : fnOf f with
    | none =>
      intro xs r h
      have h' : (match fnOf f with | some fn => evalF (T.loc f) sg (callF K) (liveOf f) K fn (sg f) xs | none => extF f xs) = some r := h
      rw [hf] at h'
      exact hx f xs r h'
    | some fn =>
      refine call_ev (live := liveOf f) (k := K) (by kernel_rfl) (tabOk.loc f) (callF_ok W hx K) (fnOf_ok f fn hf).1 (fnOf_ok f fn hf).2 fun xs => ?_
      show (match fnOf f with | some fn => evalF (T.loc f) sg (callF K) (liveOf f) K fn (sg f) xs | none => extF f xs) = _
      rw [hf]
theorem ext_ok (W : World) (f : FuncId) : CallOk Go.Proofs.Try.prog W sg extF f := by
  intro xs r h
  have e : extF f = fun _ => none := rfl
  rw [e] at h
  cases h
end Go.Proofs.Ytfglahmbnnkijaa.E
