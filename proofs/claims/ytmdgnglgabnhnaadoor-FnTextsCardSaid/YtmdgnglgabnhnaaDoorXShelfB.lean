import Derived.Shelf.LaysM
import Derived.Shelf.Bytes.WriteString
import Derived.Shelf.Bytes.String
import Derived.Test.YtmdgnglgabnhnaaDoorProg
/- Contracts of library functions, laid at this program by the kit's tools (lay-shelf, lay-plain). -/
namespace Go.Proofs
open Go.Shelf Go.RowKit Go.Lib
def Tryd.laysM178_ren : Go.Shelf.Ren := ⟨fun | 178 => 56 | 251 => 61 | 252 => 62 | 181 => 67 | 184 => 68 | 290 => 69 | 324 => 74 | n => n, fun | 130 => 90 | 9 => 9 | 3 => 3 | 75 => 82 | 0 => 0 | 93 => 80 | 91 => 78 | 131 => 91 | 4 => 4 | 37 => 62 | 20 => 20 | 80 => 61 | 5 => 5 | n => n, fun | 14 => 3 | n => n⟩
theorem Tryd.laysM178 : Go.Proofs.LaysM.n178 Tryd.prog Tryd.laysM178_ren := {
  mixed := by kernel_rfl
  f178 := Tryd.func56.trans (congrArg some (by kernel_rfl))
  f181 := Tryd.func67.trans (congrArg some (by kernel_rfl))
  f184 := Tryd.func68.trans (congrArg some (by kernel_rfl))
  f251 := Tryd.func61.trans (congrArg some (by kernel_rfl))
  f252 := Tryd.func62.trans (congrArg some (by kernel_rfl))
  f290 := Tryd.func69.trans (congrArg some (by kernel_rfl))
  f324 := Tryd.func74.trans (congrArg some (by kernel_rfl))
  t0 := Tryd.underlying0
  a0 := Tryd.isAgg0
  z0 := Tryd.sizeOf0
  v0 := Tryd.zeroValue0
  t3 := Tryd.underlying3
  a3 := Tryd.isAgg3
  z3 := Tryd.sizeOf3
  v3 := Tryd.zeroValue3
  t4 := Tryd.underlying4
  a4 := Tryd.isAgg4
  z4 := Tryd.sizeOf4
  v4 := Tryd.zeroValue4
  t9 := Tryd.underlying9
  a9 := Tryd.isAgg9
  z9 := Tryd.sizeOf9
  v9 := Tryd.zeroValue9
  t20 := Tryd.underlying20
  a20 := Tryd.isAgg20
  z20 := Tryd.sizeOf20
  v20 := Tryd.zeroValue20
  t37 := Tryd.underlying62
  a37 := Tryd.isAgg62
  z37 := Tryd.sizeOf62
  v37 := Tryd.zeroValue62
  t75 := Tryd.underlying82
  a75 := Tryd.isAgg82
  z75 := Tryd.sizeOf82
  v75 := Tryd.zeroValue82
  t91 := Tryd.underlying78
  a91 := Tryd.isAgg78
  z91 := Tryd.sizeOf78
  v91 := Tryd.zeroValue78
  t93 := Tryd.underlying80
  a93 := Tryd.isAgg80
  z93 := Tryd.sizeOf80
  v93 := Tryd.zeroValue80
  t130 := Tryd.underlying90
  a130 := Tryd.isAgg90
  z130 := Tryd.sizeOf90
  v130 := Tryd.zeroValue90
  t131 := Tryd.underlying91
  a131 := Tryd.isAgg91
  z131 := Tryd.sizeOf91
  v131 := Tryd.zeroValue91
  g14 := by kernel_rfl
  t5 := Tryd.underlying5
  a5 := Tryd.isAgg5
  z5 := Tryd.sizeOf5
  v5 := Tryd.zeroValue5
  t80 := Tryd.underlying61
  a80 := Tryd.isAgg61
  z80 := Tryd.sizeOf61
  v80 := Tryd.zeroValue61
  i0 := by kernel_rfl
  i3 := by kernel_rfl
  i4 := by kernel_rfl
  i5 := by kernel_rfl
  i9 := by kernel_rfl
  i20 := by kernel_rfl
  i37 := by kernel_rfl
  i75 := by kernel_rfl
  i80 := by kernel_rfl
  i91 := by kernel_rfl
  i93 := by kernel_rfl
  i130 := by kernel_rfl
  i131 := by kernel_rfl
  m14 := by kernel_rfl }
theorem Tryd.Buffer_WriteString (B b : Nat) (bs : List Value) (s : ByteArray) (w : World) (h : Lib.IsBuffer 80 5 B b bs w) (hBw : B ≤ w.heap.size) (h1 : ∀ v ∈ bs, v.oneCell' = true) (hlim : bs.length + s.size ≤ 140737488355328) :
    Calls Tryd.prog 56 #[.pointer (some ⟨b, 0, none⟩), .string s] w fun e w' => e = .returned (.tuple #[.int .i64 s.size, .nilIface]) ∧ Lib.IsBuffer 80 5 B b (bs ++ Lib.byteCells s.data.toList) w' ∧ Below B w w' := Any.Buffer_WriteString Tryd.laysM178 B b bs s w h hBw h1 hlim
def Tryd.laysM182_ren : Go.Shelf.Ren := ⟨fun | 182 => 57 | n => n, fun | 130 => 90 | 9 => 9 | 4 => 4 | 0 => 0 | 93 => 80 | 37 => 62 | 3 => 3 | 91 => 78 | 5 => 5 | n => n, fun | n => n⟩
theorem Tryd.laysM182 : Go.Proofs.LaysM.n182 Tryd.prog Tryd.laysM182_ren := {
  mixed := by kernel_rfl
  f182 := Tryd.func57.trans (congrArg some (by kernel_rfl))
  t0 := Tryd.underlying0
  a0 := Tryd.isAgg0
  z0 := Tryd.sizeOf0
  v0 := Tryd.zeroValue0
  t3 := Tryd.underlying3
  a3 := Tryd.isAgg3
  z3 := Tryd.sizeOf3
  v3 := Tryd.zeroValue3
  t4 := Tryd.underlying4
  a4 := Tryd.isAgg4
  z4 := Tryd.sizeOf4
  v4 := Tryd.zeroValue4
  t9 := Tryd.underlying9
  a9 := Tryd.isAgg9
  z9 := Tryd.sizeOf9
  v9 := Tryd.zeroValue9
  t37 := Tryd.underlying62
  a37 := Tryd.isAgg62
  z37 := Tryd.sizeOf62
  v37 := Tryd.zeroValue62
  t93 := Tryd.underlying80
  a93 := Tryd.isAgg80
  z93 := Tryd.sizeOf80
  v93 := Tryd.zeroValue80
  t130 := Tryd.underlying90
  a130 := Tryd.isAgg90
  z130 := Tryd.sizeOf90
  v130 := Tryd.zeroValue90
  t5 := Tryd.underlying5
  a5 := Tryd.isAgg5
  z5 := Tryd.sizeOf5
  v5 := Tryd.zeroValue5
  t91 := Tryd.underlying78
  a91 := Tryd.isAgg78
  z91 := Tryd.sizeOf78
  v91 := Tryd.zeroValue78
  i0 := by kernel_rfl
  i3 := by kernel_rfl
  i4 := by kernel_rfl
  i5 := by kernel_rfl
  i9 := by kernel_rfl
  i37 := by kernel_rfl
  i91 := by kernel_rfl
  i93 := by kernel_rfl
  i130 := by kernel_rfl }
theorem Tryd.Buffer_String (B b : Nat) (l : List UInt8) (w : World) (h : Lib.IsBuffer 80 5 B b (Lib.byteCells l) w) :
    Calls Tryd.prog 57 #[.pointer (some ⟨b, 0, none⟩)] w fun e w' => e = .returned (.string ⟨l.toArray⟩) ∧ ∃ n, w' = w.drewN n := Any.Buffer_String Tryd.laysM182 B b l w h
end Go.Proofs
