-- Written by a program of this session (wip/tools): the printer's text for functions of the seat YtaabfadjemmibaaDoor. Not trusted: Lean checks it.
import Derived.Test.YtaabfadjemmibaaDoorProg
import Derived.Below
import Derived.Deep.Draws
import Derived.Deep.AppendLies
import Derived.Maps.AppendAt
import Derived.OwnWalk
import Derived.Laws.BytesArg
import Derived.Laws.MakeOwn
import Derived.Laws.OwnMore
import Derived.Deep.OwnRows
import Derived.Tactics
import Derived.Lib.ConvBytes
import Derived.Laws.Slices
import Derived.WalkKit
import Derived.KernelRfl
import Derived.RowKit3
import Derived.Deep.LoopGhost
import Derived.Deep.QuietTactic
import Derived.BigQuiet
import Derived.WideLaws
import Derived.Deep.DeepCutAuto
import Derived.Deep.CutBlock
import Derived.Deep.RegionHeld3
import Derived.Laws.Rows
import Derived.Lib.AppendStr
import Derived.ArgAppend
import Derived.Laws.IdiomCopy
import Derived.OrdersHeld
import Derived.Laws.BitsLemmas
import Derived.RowKit
import Derived.Test.YtaabfadjemmibaaDoorX
import Derived.Test.YtaabfadjemmibaaDoorWWords
import Derived.Test.YtaabfadjemmibaaDoorWLast
import Derived.Test.YtaabfadjemmibaaDoorWTab
import Derived.Test.YtaabfadjemmibaaDoorWFour
import Derived.Test.YtaabfadjemmibaaDoorWQPut
import Derived.Test.YtaabfadjemmibaaDoorWApart
import Derived.Test.YtaabfadjemmibaaDoorWArr
import Derived.Test.YtaabfadjemmibaaDoorWZeros
import Derived.Test.YtaabfadjemmibaaDoorWFoot
import Derived.Test.YtaabfadjemmibaaDoorWKept
import Derived.Test.YtaabfadjemmibaaDoorWShare
import Derived.Test.YtaabfadjemmibaaDoorWN
import Derived.Test.YtaabfadjemmibaaDoorWFootNe
import Derived.Test.YtaabfadjemmibaaDoorWAt
import Derived.Test.YtaabfadjemmibaaDoorWEqStruct
import Derived.Test.YtaabfadjemmibaaDoorWRepsOne
import Derived.Test.YtaabfadjemmibaaDoorWInv
import Derived.Test.YtaabfadjemmibaaDoorWInvWords
import Derived.Test.YtaabfadjemmibaaDoorWGuard
import Derived.Test.YtaabfadjemmibaaDoorWNEv
import Derived.Test.YtaabfadjemmibaaDoorWMore
namespace Go.Proofs.YtaabfadjemmibaaDoor.P
open Go.RowKit Go.Proofs.YtaabfadjemmibaaDoorW.PrintWords Go.Proofs.YtaabfadjemmibaaDoorW.PrintLast Go.Proofs.YtaabfadjemmibaaDoorW.PrintMore
attribute [local go_sem] max2_int min2_int max_two min_two max_three min_three max_four min_four   -- for this text's walks alone
open Go.Proofs.YtaabfadjemmibaaDoorX
set_option linter.unusedVariables false
set_option linter.unusedSimpArgs false



def errW : Option Int → Value
  | none => .nilIface
  | some c => .iface 0 (.int .i64 c)
theorem errW_none : errW none = .nilIface := rfl
theorem errW_some (c : Int) : errW (some c) = .iface 0 (.int .i64 c) := rfl

theorem info2 : (Tryd.prog.info? 2).map (fun i => (i.zero, i.size, i.bytes)) = some (some (.int .i64 0), 1, 8) := by kernel_rfl
theorem info3 : (Tryd.prog.info? 3).map (fun i => (i.zero, i.size, i.bytes)) = some (some (.int .i64 0), 1, 8) := by kernel_rfl
theorem info9 : (Tryd.prog.info? 9).map (fun i => (i.zero, i.size, i.bytes)) = some (some (.string ⟨#[]⟩), 1, 16) := by kernel_rfl
theorem info21 : (Tryd.prog.info? 21).map (fun i => (i.zero, i.size, i.bytes)) = some (some (.int .i32 0), 1, 4) := by kernel_rfl
theorem info26 : (Tryd.prog.info? 26).map (fun i => (i.zero, i.size, i.bytes)) = some (some (.agg #[(.int .i64 0), (.string ⟨#[]⟩)]), 2, 24) := by kernel_rfl
theorem info34 : (Tryd.prog.info? 34).map (fun i => (i.zero, i.size, i.bytes)) = some (some (.agg #[(.int .i64 0), (.string ⟨#[]⟩)]), 2, 24) := by kernel_rfl
theorem info59 : (Tryd.prog.info? 59).map (fun i => (i.zero, i.size, i.bytes)) = some (some (.agg #[(.int .i8 0), (.string ⟨#[]⟩)]), 2, 24) := by kernel_rfl
-- the values' own types
/-! #### struct type 26 -/
structure S26 where
  f0 : Int
  f1 : ByteArray
def z26 : S26 := ⟨(0 : Int), (⟨#[]⟩ : ByteArray)⟩
def k26 : Kd S26 := Kd.iso (Kd.pair (Kd.int .i64) Kd.string) (fun x : S26 => (x.f0, x.f1))
theorem k26_open {w : World} {x : S26} {cs : List Value} (h : k26.K w x cs) : cs = [.int .i64 x.f0, .string x.f1] := by
  obtain ⟨_, _, rfl, rfl, rfl⟩ := h
  exact rfl
theorem k26_openM {w : World} {base : Nat} {ok : Nat → Prop} {x : S26} {cs : List Value} (h : k26.M w base ok x cs) : cs = [.int .i64 x.f0, .string x.f1] := by
  obtain ⟨_, _, rfl, rfl, rfl⟩ := h
  exact rfl
theorem k26_mk (w : World) (x : S26)  : k26.K w x [.int .i64 x.f0, .string x.f1] := ⟨[.int .i64 x.f0], [.string x.f1], rfl, rfl, rfl⟩
theorem k26_mkM (w : World) (base : Nat) (ok : Nat → Prop) (x : S26)  : k26.M w base ok x [.int .i64 x.f0, .string x.f1] := ⟨[.int .i64 x.f0], [.string x.f1], rfl, rfl, rfl⟩
def rd_T26 (xs : List S26) (i : Int) : S26 := xs.getD i.toNat z26
theorem at_T26 {w : World} {A : Option Addr} {n : Nat} {xs : List S26} (h : Kd.C k26 w A n xs) (i : Int) (h0 : 0 ≤ i) (h1 : i < n) : ∃ ad , A = some ad ∧ w.cell? (ad.add (i.toNat * 2)) = some (.int .i64 (rd_T26 xs i).f0) ∧ w.cell? ⟨(ad.add (i.toNat * 2)).block, (ad.add (i.toNat * 2)).off + 1, none⟩ = some (.string (rd_T26 xs i).f1) := by
  obtain ⟨ad, c, e, _, hK, hc0⟩ := Kd.C_get h z26 i h0 h1
  have hc : ∀ j u, c[j]? = some u → w.cell? (ad.add (i.toNat * 2 + j)) = some u := hc0
  obtain rfl := k26_open hK
  exact ⟨ad, e, hc 0 _ rfl, by rw [← add_field _ _ 1 (by omega)]; exact hc 1 _ rfl⟩

/-! #### struct type 34 -/
structure S34 where
  f0 : Int
  f1 : ByteArray
def z34 : S34 := ⟨(0 : Int), (⟨#[]⟩ : ByteArray)⟩
def k34 : Kd S34 := Kd.iso (Kd.pair (Kd.int .i64) Kd.string) (fun x : S34 => (x.f0, x.f1))
theorem k34_open {w : World} {x : S34} {cs : List Value} (h : k34.K w x cs) : cs = [.int .i64 x.f0, .string x.f1] := by
  obtain ⟨_, _, rfl, rfl, rfl⟩ := h
  exact rfl
theorem k34_openM {w : World} {base : Nat} {ok : Nat → Prop} {x : S34} {cs : List Value} (h : k34.M w base ok x cs) : cs = [.int .i64 x.f0, .string x.f1] := by
  obtain ⟨_, _, rfl, rfl, rfl⟩ := h
  exact rfl
theorem k34_mk (w : World) (x : S34)  : k34.K w x [.int .i64 x.f0, .string x.f1] := ⟨[.int .i64 x.f0], [.string x.f1], rfl, rfl, rfl⟩
theorem k34_mkM (w : World) (base : Nat) (ok : Nat → Prop) (x : S34)  : k34.M w base ok x [.int .i64 x.f0, .string x.f1] := ⟨[.int .i64 x.f0], [.string x.f1], rfl, rfl, rfl⟩
def rd_T34 (xs : List S34) (i : Int) : S34 := xs.getD i.toNat z34
theorem at_T34 {w : World} {A : Option Addr} {n : Nat} {xs : List S34} (h : Kd.C k34 w A n xs) (i : Int) (h0 : 0 ≤ i) (h1 : i < n) : ∃ ad , A = some ad ∧ w.cell? (ad.add (i.toNat * 2)) = some (.int .i64 (rd_T34 xs i).f0) ∧ w.cell? ⟨(ad.add (i.toNat * 2)).block, (ad.add (i.toNat * 2)).off + 1, none⟩ = some (.string (rd_T34 xs i).f1) := by
  obtain ⟨ad, c, e, _, hK, hc0⟩ := Kd.C_get h z34 i h0 h1
  have hc : ∀ j u, c[j]? = some u → w.cell? (ad.add (i.toNat * 2 + j)) = some u := hc0
  obtain rfl := k34_open hK
  exact ⟨ad, e, hc 0 _ rfl, by rw [← add_field _ _ 1 (by omega)]; exact hc 1 _ rfl⟩

/-! #### struct type 59 -/
structure S59 where
  f0 : Int
  f1 : ByteArray
def z59 : S59 := ⟨(0 : Int), (⟨#[]⟩ : ByteArray)⟩
def k59 : Kd S59 := Kd.iso (Kd.pair (Kd.int .i8) Kd.string) (fun x : S59 => (x.f0, x.f1))
theorem k59_open {w : World} {x : S59} {cs : List Value} (h : k59.K w x cs) : cs = [.int .i8 x.f0, .string x.f1] := by
  obtain ⟨_, _, rfl, rfl, rfl⟩ := h
  exact rfl
theorem k59_openM {w : World} {base : Nat} {ok : Nat → Prop} {x : S59} {cs : List Value} (h : k59.M w base ok x cs) : cs = [.int .i8 x.f0, .string x.f1] := by
  obtain ⟨_, _, rfl, rfl, rfl⟩ := h
  exact rfl
theorem k59_mk (w : World) (x : S59)  : k59.K w x [.int .i8 x.f0, .string x.f1] := ⟨[.int .i8 x.f0], [.string x.f1], rfl, rfl, rfl⟩
theorem k59_mkM (w : World) (base : Nat) (ok : Nat → Prop) (x : S59)  : k59.M w base ok x [.int .i8 x.f0, .string x.f1] := ⟨[.int .i8 x.f0], [.string x.f1], rfl, rfl, rfl⟩
def rd_T59 (xs : List S59) (i : Int) : S59 := xs.getD i.toNat z59
theorem at_T59 {w : World} {A : Option Addr} {n : Nat} {xs : List S59} (h : Kd.C k59 w A n xs) (i : Int) (h0 : 0 ≤ i) (h1 : i < n) : ∃ ad , A = some ad ∧ w.cell? (ad.add (i.toNat * 2)) = some (.int .i8 (rd_T59 xs i).f0) ∧ w.cell? ⟨(ad.add (i.toNat * 2)).block, (ad.add (i.toNat * 2)).off + 1, none⟩ = some (.string (rd_T59 xs i).f1) := by
  obtain ⟨ad, c, e, _, hK, hc0⟩ := Kd.C_get h z59 i h0 h1
  have hc : ∀ j u, c[j]? = some u → w.cell? (ad.add (i.toNat * 2 + j)) = some u := hc0
  obtain rfl := k59_open hK
  exact ⟨ad, e, hc 0 _ rfl, by rw [← add_field _ _ 1 (by omega)]; exact hc 1 _ rfl⟩

def rd_L7 (xs : List (List S59)) (i : Int) : (List S59) := xs.getD i.toNat ([] : List S59)
theorem at_L7 {w : World} {A : Option Addr} {n : Nat} {xs : List (List S59)} (h : Kd.C (Kd.slice 59 k59) w A n xs) (i : Int) (h0 : 0 ≤ i) (h1 : i < n) : ∃ ad A0 c0, A = some ad ∧ w.cell? (ad.add i.toNat) = some (.slice A0 (rd_L7 xs i).length c0) ∧ (rd_L7 xs i).length ≤ c0 ∧ k59.C w A0 (rd_L7 xs i).length (rd_L7 xs i) := by
  obtain ⟨ad, c, e, _, hK, hc0⟩ := Kd.C_get h ([] : List S59) i h0 h1
  have hc : ∀ j u, c[j]? = some u → w.cell? (ad.add (i.toNat * 1 + j)) = some u := hc0
  obtain ⟨A0, c0, rfl, l0, g0⟩ := hK
  exact ⟨ad, A0, c0, e, by have hq := hc 0 _ rfl; rwa [Nat.mul_one, Nat.add_zero] at hq, l0, g0⟩

end Go.Proofs.YtaabfadjemmibaaDoor.P
