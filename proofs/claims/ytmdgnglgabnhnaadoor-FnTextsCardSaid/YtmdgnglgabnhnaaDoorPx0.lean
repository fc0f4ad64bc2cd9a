-- Written by a program of this session (wip/tools): the printer's text for functions of the seat YtmdgnglgabnhnaaDoor. Not trusted: Lean checks it.
import Derived.Test.YtmdgnglgabnhnaaDoorProg
import Derived.Below
import Derived.Deep.Draws
import Derived.Deep.AppendLies
import Derived.Maps.AppendAt
import Derived.OwnWalk
import Derived.Laws.BytesArg
import Derived.Laws.MakeOwn
import Derived.Laws.OwnMore
import Derived.Deep.OwnRows
import Derived.Tactics
import Derived.Lib.ConvBytes
import Derived.Laws.Slices
import Derived.WalkKit
import Derived.KernelRfl
import Derived.RowKit3
import Derived.Deep.LoopGhost
import Derived.Deep.QuietTactic
import Derived.BigQuiet
import Derived.WideLaws
import Derived.Deep.DeepCutAuto
import Derived.Deep.CutBlock
import Derived.Deep.RegionHeld3
import Derived.Laws.Rows
import Derived.Lib.AppendStr
import Derived.ArgAppend
import Derived.Laws.IdiomCopy
import Derived.OrdersHeld
import Derived.Laws.BitsLemmas
import Derived.RowKit
import Derived.Test.YtmdgnglgabnhnaaDoorX
import Derived.Test.YtmdgnglgabnhnaaDoorWWords
import Derived.Test.YtmdgnglgabnhnaaDoorWLast
import Derived.Test.YtmdgnglgabnhnaaDoorWTab
import Derived.Test.YtmdgnglgabnhnaaDoorWFour
import Derived.Test.YtmdgnglgabnhnaaDoorWQPut
import Derived.Test.YtmdgnglgabnhnaaDoorWApart
import Derived.Test.YtmdgnglgabnhnaaDoorWArr
import Derived.Test.YtmdgnglgabnhnaaDoorWZeros
import Derived.Test.YtmdgnglgabnhnaaDoorWFoot
import Derived.Test.YtmdgnglgabnhnaaDoorWKept
import Derived.Test.YtmdgnglgabnhnaaDoorWShare
import Derived.Test.YtmdgnglgabnhnaaDoorWN
import Derived.Test.YtmdgnglgabnhnaaDoorWFootNe
import Derived.Test.YtmdgnglgabnhnaaDoorWAt
import Derived.Test.YtmdgnglgabnhnaaDoorWEqStruct
import Derived.Test.YtmdgnglgabnhnaaDoorWRepsOne
import Derived.Test.YtmdgnglgabnhnaaDoorWInv
import Derived.Test.YtmdgnglgabnhnaaDoorWInvWords
import Derived.Test.YtmdgnglgabnhnaaDoorWGuard
import Derived.Test.YtmdgnglgabnhnaaDoorWNEv
import Derived.Test.YtmdgnglgabnhnaaDoorWMore
namespace Go.Proofs.YtmdgnglgabnhnaaDoor.P
open Go.RowKit Go.Proofs.YtmdgnglgabnhnaaDoorW.PrintWords Go.Proofs.YtmdgnglgabnhnaaDoorW.PrintLast Go.Proofs.YtmdgnglgabnhnaaDoorW.PrintMore
attribute [local go_sem] max2_int min2_int max_two min_two max_three min_three max_four min_four   -- for this text's walks alone
open Go.Proofs.YtmdgnglgabnhnaaDoorX
set_option linter.unusedVariables false
set_option linter.unusedSimpArgs false



def errW : Option Int → Value
  | none => .nilIface
  | some c => .iface 0 (.int .i64 c)
theorem errW_none : errW none = .nilIface := rfl
theorem errW_some (c : Int) : errW (some c) = .iface 0 (.int .i64 c) := rfl

theorem info33 : (Tryd.prog.info? 33).map (fun i => (i.zero, i.size, i.bytes)) = some (some (.agg #[(.int .i64 0), (.string ⟨#[]⟩)]), 2, 24) := by kernel_rfl
theorem info76 : (Tryd.prog.info? 76).map (fun i => (i.zero, i.size, i.bytes)) = some (some (.agg #[(.int .i8 0), (.string ⟨#[]⟩)]), 2, 24) := by kernel_rfl
-- the values' own types
/-! #### struct type 53 -/
structure S53 where
  f0 : Int
  f1 : ByteArray
def z53 : S53 := ⟨(0 : Int), (⟨#[]⟩ : ByteArray)⟩
def k53 : Kd S53 := Kd.iso (Kd.pair (Kd.int .i64) Kd.string) (fun x : S53 => (x.f0, x.f1))
theorem k53_open {w : World} {x : S53} {cs : List Value} (h : k53.K w x cs) : cs = [.int .i64 x.f0, .string x.f1] := by
  obtain ⟨_, _, rfl, rfl, rfl⟩ := h
  exact rfl
theorem k53_openM {w : World} {base : Nat} {ok : Nat → Prop} {x : S53} {cs : List Value} (h : k53.M w base ok x cs) : cs = [.int .i64 x.f0, .string x.f1] := by
  obtain ⟨_, _, rfl, rfl, rfl⟩ := h
  exact rfl
theorem k53_mk (w : World) (x : S53)  : k53.K w x [.int .i64 x.f0, .string x.f1] := ⟨[.int .i64 x.f0], [.string x.f1], rfl, rfl, rfl⟩
theorem k53_mkM (w : World) (base : Nat) (ok : Nat → Prop) (x : S53)  : k53.M w base ok x [.int .i64 x.f0, .string x.f1] := ⟨[.int .i64 x.f0], [.string x.f1], rfl, rfl, rfl⟩
def rd_T53 (xs : List S53) (i : Int) : S53 := xs.getD i.toNat z53
theorem at_T53 {w : World} {A : Option Addr} {n : Nat} {xs : List S53} (h : Kd.C k53 w A n xs) (i : Int) (h0 : 0 ≤ i) (h1 : i < n) : ∃ ad , A = some ad ∧ w.cell? (ad.add (i.toNat * 2)) = some (.int .i64 (rd_T53 xs i).f0) ∧ w.cell? ⟨(ad.add (i.toNat * 2)).block, (ad.add (i.toNat * 2)).off + 1, none⟩ = some (.string (rd_T53 xs i).f1) := by
  obtain ⟨ad, c, e, _, hK, hc0⟩ := Kd.C_get h z53 i h0 h1
  have hc : ∀ j u, c[j]? = some u → w.cell? (ad.add (i.toNat * 2 + j)) = some u := hc0
  obtain rfl := k53_open hK
  exact ⟨ad, e, hc 0 _ rfl, by rw [← add_field _ _ 1 (by omega)]; exact hc 1 _ rfl⟩

/-! #### struct type 33 -/
structure S33 where
  f0 : Int
  f1 : ByteArray
def z33 : S33 := ⟨(0 : Int), (⟨#[]⟩ : ByteArray)⟩
def k33 : Kd S33 := Kd.iso (Kd.pair (Kd.int .i64) Kd.string) (fun x : S33 => (x.f0, x.f1))
theorem k33_open {w : World} {x : S33} {cs : List Value} (h : k33.K w x cs) : cs = [.int .i64 x.f0, .string x.f1] := by
  obtain ⟨_, _, rfl, rfl, rfl⟩ := h
  exact rfl
theorem k33_openM {w : World} {base : Nat} {ok : Nat → Prop} {x : S33} {cs : List Value} (h : k33.M w base ok x cs) : cs = [.int .i64 x.f0, .string x.f1] := by
  obtain ⟨_, _, rfl, rfl, rfl⟩ := h
  exact rfl
theorem k33_mk (w : World) (x : S33)  : k33.K w x [.int .i64 x.f0, .string x.f1] := ⟨[.int .i64 x.f0], [.string x.f1], rfl, rfl, rfl⟩
theorem k33_mkM (w : World) (base : Nat) (ok : Nat → Prop) (x : S33)  : k33.M w base ok x [.int .i64 x.f0, .string x.f1] := ⟨[.int .i64 x.f0], [.string x.f1], rfl, rfl, rfl⟩
def rd_T33 (xs : List S33) (i : Int) : S33 := xs.getD i.toNat z33
theorem at_T33 {w : World} {A : Option Addr} {n : Nat} {xs : List S33} (h : Kd.C k33 w A n xs) (i : Int) (h0 : 0 ≤ i) (h1 : i < n) : ∃ ad , A = some ad ∧ w.cell? (ad.add (i.toNat * 2)) = some (.int .i64 (rd_T33 xs i).f0) ∧ w.cell? ⟨(ad.add (i.toNat * 2)).block, (ad.add (i.toNat * 2)).off + 1, none⟩ = some (.string (rd_T33 xs i).f1) := by
  obtain ⟨ad, c, e, _, hK, hc0⟩ := Kd.C_get h z33 i h0 h1
  have hc : ∀ j u, c[j]? = some u → w.cell? (ad.add (i.toNat * 2 + j)) = some u := hc0
  obtain rfl := k33_open hK
  exact ⟨ad, e, hc 0 _ rfl, by rw [← add_field _ _ 1 (by omega)]; exact hc 1 _ rfl⟩

/-! #### struct type 76 -/
structure S76 where
  f0 : Int
  f1 : ByteArray
def z76 : S76 := ⟨(0 : Int), (⟨#[]⟩ : ByteArray)⟩
def k76 : Kd S76 := Kd.iso (Kd.pair (Kd.int .i8) Kd.string) (fun x : S76 => (x.f0, x.f1))
theorem k76_open {w : World} {x : S76} {cs : List Value} (h : k76.K w x cs) : cs = [.int .i8 x.f0, .string x.f1] := by
  obtain ⟨_, _, rfl, rfl, rfl⟩ := h
  exact rfl
theorem k76_openM {w : World} {base : Nat} {ok : Nat → Prop} {x : S76} {cs : List Value} (h : k76.M w base ok x cs) : cs = [.int .i8 x.f0, .string x.f1] := by
  obtain ⟨_, _, rfl, rfl, rfl⟩ := h
  exact rfl
theorem k76_mk (w : World) (x : S76)  : k76.K w x [.int .i8 x.f0, .string x.f1] := ⟨[.int .i8 x.f0], [.string x.f1], rfl, rfl, rfl⟩
theorem k76_mkM (w : World) (base : Nat) (ok : Nat → Prop) (x : S76)  : k76.M w base ok x [.int .i8 x.f0, .string x.f1] := ⟨[.int .i8 x.f0], [.string x.f1], rfl, rfl, rfl⟩
def rd_T76 (xs : List S76) (i : Int) : S76 := xs.getD i.toNat z76
theorem at_T76 {w : World} {A : Option Addr} {n : Nat} {xs : List S76} (h : Kd.C k76 w A n xs) (i : Int) (h0 : 0 ≤ i) (h1 : i < n) : ∃ ad , A = some ad ∧ w.cell? (ad.add (i.toNat * 2)) = some (.int .i8 (rd_T76 xs i).f0) ∧ w.cell? ⟨(ad.add (i.toNat * 2)).block, (ad.add (i.toNat * 2)).off + 1, none⟩ = some (.string (rd_T76 xs i).f1) := by
  obtain ⟨ad, c, e, _, hK, hc0⟩ := Kd.C_get h z76 i h0 h1
  have hc : ∀ j u, c[j]? = some u → w.cell? (ad.add (i.toNat * 2 + j)) = some u := hc0
  obtain rfl := k76_open hK
  exact ⟨ad, e, hc 0 _ rfl, by rw [← add_field _ _ 1 (by omega)]; exact hc 1 _ rfl⟩

def rd_L7 (xs : List (List S76)) (i : Int) : (List S76) := xs.getD i.toNat ([] : List S76)
theorem at_L7 {w : World} {A : Option Addr} {n : Nat} {xs : List (List S76)} (h : Kd.C (Kd.slice 76 k76) w A n xs) (i : Int) (h0 : 0 ≤ i) (h1 : i < n) : ∃ ad A0 c0, A = some ad ∧ w.cell? (ad.add i.toNat) = some (.slice A0 (rd_L7 xs i).length c0) ∧ (rd_L7 xs i).length ≤ c0 ∧ k76.C w A0 (rd_L7 xs i).length (rd_L7 xs i) := by
  obtain ⟨ad, c, e, _, hK, hc0⟩ := Kd.C_get h ([] : List S76) i h0 h1
  have hc : ∀ j u, c[j]? = some u → w.cell? (ad.add (i.toNat * 1 + j)) = some u := hc0
  obtain ⟨A0, c0, rfl, l0, g0⟩ := hK
  exact ⟨ad, A0, c0, e, by have hq := hc 0 _ rfl; rwa [Nat.mul_one, Nat.add_zero] at hq, l0, g0⟩

end Go.Proofs.YtmdgnglgabnhnaaDoor.P
