import Derived.Test.YtfefjbifdbfmjaaDoorEv3
import Derived.Test.YtfefjbifdbfmjaaDoorProg
import Derived.Lib.RuneCount
import Derived.Lib.ItoaNum
import Derived.Lib.ParseIntB
import Derived.Lib.ValidU
/- Written by a program of this session (wip/tools/mkev.py): the table of the functions that are evaluated, and names for their places. Not trusted: Lean checks it. -/
namespace Go.Proofs.YtfefjbifdbfmjaaDoor.E
open Go.Ev
noncomputable section
@[reducible] def TS0 : Ty := (.pair (.int .i8) (.one .str))
@[reducible] def TS1 : Ty := (.pair (.int .i64) (.one .str))
@[reducible] def TS2 : Ty := (.pair (.int .i64) (.pair (.int .i64) (.pair (.int .i64) (.pair .flt (.pair (.int .i64) (.pair (.int .i64) (.one .flt)))))))
@[reducible] def TS3 : Ty := (.one .str)
noncomputable def T : Tab where
  ty n := match n with
    | 2 => some (.int .i64)
    | 3 => some (.int .i64)
    | 4 => some .bool
    | 5 => some (.int .u8)
    | 9 => some .str
    | 40 => some TS1
    | 45 => some .nile
    | 52 => some TS1
    | 66 => some TS2
    | 74 => some (.int .i8)
    | 76 => some TS0
    | 98 => some TS3
    | _ => none
  sl n := match n with
    | 22 => some (TS1, 40)
    | 28 => some (TS1, 52)
    | 43 => some (TS0, 76)
    | 55 => some ((.int .i32), 21)
    | 56 => some (.str, 9)
    | 79 => some ((.int .u8), 5)
    | _ => none
  eq n := match n with
    | 52 => true
    | _ => false
  lt := ltI
  le := leI
  eqI := Go.Ev.eqI
  nle := nleI
  eqS := Go.Ev.eqS
  i2f := i2fI
  f2iOk := f2iOkI
  f2i := f2iI
  fo := foI
  faOk := faOkI
  fa := faI
  rd n := Nat.beq n 17
def sg (f : FuncId) : Sig := match f with
  | 3 => ⟨[.read TS1 40], [.v .bool]⟩
  | 4 => ⟨[.v .str, .v .str], [.v .bool]⟩
  | 5 => ⟨[.v .str, .v .str], [.v .bool]⟩
  | 6 => ⟨[.read TS1 40], [.v .bool]⟩
  | 7 => ⟨[.read TS1 40], [.v .bool]⟩
  | 8 => ⟨[.read TS1 40], [.v .bool]⟩
  | 9 => ⟨[.read TS1 40, .v (.int .u8)], [.v .bool]⟩
  | 10 => ⟨[.read TS1 40], [.v .bool]⟩
  | 11 => ⟨[.read TS1 40], [.v .bool]⟩
  | 12 => ⟨[], [.v .bool]⟩
  | 13 => ⟨[.v .str, .v .str], [.sl TS1 40, .v .str]⟩
  | 14 => ⟨[.read TS1 52, .v (.int .i64)], [.v .str]⟩
  | 15 => ⟨[.read TS1 40], [.sl TS1 52]⟩
  | 16 => ⟨[.read TS1 40], [.v .str]⟩
  | 17 => ⟨[.read TS1 40], [.sl TS1 40]⟩
  | 18 => ⟨[.read TS1 52, .read TS1 52], [.v .bool]⟩
  | 19 => ⟨[.v .str, .v (.int .i64)], [.v .bool]⟩
  | 20 => ⟨[.v .str, .v .str], [.sl TS1 52, .v .str, .v .bool]⟩
  | 21 => ⟨[.read TS1 52], [.v .str]⟩
  | 22 => ⟨[.read TS1 40], [.v .str]⟩
  | 23 => ⟨[.read TS1 52], [.v .str]⟩
  | 24 => ⟨[.read TS1 40], [.v .str]⟩
  | 25 => ⟨[.read TS1 52], [.v .str]⟩
  | 26 => ⟨[.v TS1], [.v .bool]⟩
  | 27 => ⟨[.read TS1 52, .v (.int .i64), .v (.int .i64), .v .bool], [.v .bool]⟩
  | 28 => ⟨[], [.pt TS2 66]⟩
  | 29 => ⟨[.pt TS2 66, .v .str, .v .str], [.sl TS0 76, .v .nile]⟩
  | 30 => ⟨[.read TS0 76], [.sl TS1 40]⟩
  | 31 => ⟨[.op, .read TS0 76], [.v .str]⟩
  | 32 => ⟨[.read TS1 40], [.sl TS0 76]⟩
  | 33 => ⟨[.v .str], [.sl .str 9]⟩
  | 34 => ⟨[.v .str], [.v .str, .v .bool]⟩
  | 35 => ⟨[.v .str], [.v (.int .i64), .v .bool]⟩
  | 36 => ⟨[.v .str], [.v .str]⟩
  | 37 => ⟨[.v (.int .i64)], [.v .str]⟩
  | 38 => ⟨[.op, .read TS0 76], [.v .str]⟩
  | 39 => ⟨[.op, .read TS0 76], [.v .str]⟩
  | 40 => ⟨[], [.pt TS2 66]⟩
  | 41 => ⟨[.v .str, .v .str], [.sl .str 9]⟩
  | 42 => ⟨[.v .str, .v .str, .v .str], [.v .str]⟩
  | 43 => ⟨[.v .str], [.v .str, .v .nile]⟩
  | 44 => ⟨[.v .str], [.v .bool]⟩
  | 45 => ⟨[.v .str], [.v .nile]⟩
  | 46 => ⟨[.v .str, .v (.int .i64), .v (.int .i64)], [.v (.int .i64), .v .nile]⟩
  | 47 => ⟨[.v (.int .i64)], [.v .str]⟩
  | 49 => ⟨[.v .str], [.v .str]⟩
  | 50 => ⟨[.v .str], [.v (.int .i64)]⟩
  | 52 => ⟨[.v .str], [.v .str]⟩
  | 53 => ⟨[.v (.int .u8)], [.v (.int .i64)]⟩
  | 54 => ⟨[.v (.int .u8)], [.v .bool]⟩
  | 55 => ⟨[.v .str], [.v .str]⟩
  | 56 => ⟨[.v .str, .v .str], [.v (.int .i64)]⟩
  | 57 => ⟨[.v (.int .u8)], [.v (.int .u8)]⟩
  | 64 => ⟨[.v .str], [.v (.int .u8)]⟩
  | _ => ⟨[], []⟩
noncomputable def fnOf (f : FuncId) : Option Func := match f with
  | 3 => some Go.Proofs.Tryd.f3
  | 4 => some Go.Proofs.Tryd.f4
  | 5 => some Go.Proofs.Tryd.f5
  | 6 => some Go.Proofs.Tryd.f6
  | 7 => some Go.Proofs.Tryd.f7
  | 8 => some Go.Proofs.Tryd.f8
  | 9 => some Go.Proofs.Tryd.f9
  | 10 => some Go.Proofs.Tryd.f10
  | 11 => some Go.Proofs.Tryd.f11
  | 12 => some Go.Proofs.Tryd.f12
  | 13 => some Go.Proofs.Tryd.f13
  | 14 => some Go.Proofs.Tryd.f14
  | 15 => some Go.Proofs.Tryd.f15
  | 16 => some Go.Proofs.Tryd.f16
  | 17 => some Go.Proofs.Tryd.f17
  | 18 => some Go.Proofs.Tryd.f18
  | 19 => some Go.Proofs.Tryd.f19
  | 20 => some Go.Proofs.Tryd.f20
  | 21 => some Go.Proofs.Tryd.f21
  | 22 => some Go.Proofs.Tryd.f22
  | 23 => some Go.Proofs.Tryd.f23
  | 24 => some Go.Proofs.Tryd.f24
  | 25 => some Go.Proofs.Tryd.f25
  | 26 => some Go.Proofs.Tryd.f26
  | 27 => some Go.Proofs.Tryd.f27
  | 28 => some Go.Proofs.Tryd.f28
  | 29 => some Go.Proofs.Tryd.f29
  | 30 => some Go.Proofs.Tryd.f30
  | 32 => some Go.Proofs.Tryd.f32
  | 33 => some Go.Proofs.Tryd.f33
  | 34 => some Go.Proofs.Tryd.f34
  | 35 => some Go.Proofs.Tryd.f35
  | 36 => some Go.Proofs.Tryd.f36
  | 37 => some Go.Proofs.Tryd.f37
  | 40 => some Go.Proofs.Tryd.f40
  | 41 => some Go.Proofs.Tryd.f41
  | 42 => some Go.Proofs.Tryd.f42
  | 43 => some Go.Proofs.Tryd.f43
  | 45 => some Go.Proofs.Tryd.f45
  | 49 => some Go.Proofs.Tryd.f49
  | 52 => some Go.Proofs.Tryd.f52
  | 53 => some Go.Proofs.Tryd.f53
  | 54 => some Go.Proofs.Tryd.f54
  | 55 => some Go.Proofs.Tryd.f55
  | 56 => some Go.Proofs.Tryd.f56
  | 57 => some Go.Proofs.Tryd.f57
  | 64 => some Go.Proofs.Tryd.f64
  | _ => none
def live3 (n : Nat) : Option (List Nat) := match n with
  | 3 => some [0]
  | 5 => some [0]
  | _ => none
def live4 (n : Nat) : Option (List Nat) := match n with
  | 2 => some [0, 1, 17]
  | 3 => some [0, 1]
  | 4 => some [0, 1, 30]
  | 5 => some [0, 1]
  | 8 => some [0, 1, 5, 6]
  | 11 => some [5, 8, 9]
  | _ => none
def live5 (n : Nat) : Option (List Nat) := match n with
  | 2 => some [0, 1, 18]
  | 3 => some [0, 1]
  | 4 => some [0, 1, 31]
  | 5 => some [0, 1]
  | 7 => some [0, 1, 45]
  | 8 => some [0, 1]
  | 10 => some [0, 8, 61]
  | 11 => some [0, 8]
  | _ => none
def live6 (n : Nat) : Option (List Nat) := match n with
  | 3 => some [0]
  | 5 => some [0]
  | _ => none
def live7 (n : Nat) : Option (List Nat) := match n with
  | 3 => some [0]
  | 5 => some [0]
  | _ => none
def live8 (n : Nat) : Option (List Nat) := match n with
  | 3 => some [0]
  | 5 => some [0]
  | _ => none
def live9 (n : Nat) : Option (List Nat) := match n with
  | 3 => some [0, 1]
  | 5 => some [0, 1]
  | _ => none
def live10 (n : Nat) : Option (List Nat) := match n with
  | 3 => some [0]
  | 5 => some [8, 9, 10]
  | 10004 => some [8, 9, 10]
  | _ => none
def live11 (n : Nat) : Option (List Nat) := match n with
  | _ => none
def live12 (n : Nat) : Option (List Nat) := match n with
  | _ => none
def live13 (n : Nat) : Option (List Nat) := match n with
  | 4 => some [6]
  | _ => none
def live14 (n : Nat) : Option (List Nat) := match n with
  | 4 => some [1, 5, 8, 9, 10]
  | 10003 => some [1, 5, 8, 9, 10]
  | _ => none
def live15 (n : Nat) : Option (List Nat) := match n with
  | 4 => some [3, 6, 7, 8]
  | 10003 => some [3, 6, 7, 8]
  | _ => none
def live16 (n : Nat) : Option (List Nat) := match n with
  | _ => none
def live17 (n : Nat) : Option (List Nat) := match n with
  | _ => none
def live18 (n : Nat) : Option (List Nat) := match n with
  | 3 => some [0, 1]
  | 5 => some [0, 1, 12, 13]
  | 10004 => some [0, 1, 12, 13]
  | _ => none
def live19 (n : Nat) : Option (List Nat) := match n with
  | _ => none
def live20 (n : Nat) : Option (List Nat) := match n with
  | 6 => some [7, 8, 9, 21, 22, 23]
  | 14 => some [7, 8, 9, 13, 21, 22, 23]
  | 16 => some [7, 8, 9, 13, 21, 22, 23]
  | 19 => some [7, 8, 9, 11, 12, 21, 22, 23, 50]
  | 23 => some [7, 8, 9, 11, 15, 21, 22, 23, 61]
  | 26 => some [7, 8, 9, 11, 15, 21, 22, 23]
  | 31 => some [7, 8, 9, 17, 21, 22, 23]
  | 33 => some [7, 8, 9]
  | 10005 => some [7, 8, 9, 21, 22, 23]
  | _ => none
def live21 (n : Nat) : Option (List Nat) := match n with
  | 4 => some [3, 6, 7, 8]
  | 7 => some [3, 5, 6, 7, 8]
  | 10003 => some [3, 6, 7, 8]
  | _ => none
def live22 (n : Nat) : Option (List Nat) := match n with
  | _ => none
def live23 (n : Nat) : Option (List Nat) := match n with
  | 4 => some [3, 8, 9, 10]
  | 7 => some [3, 5, 8, 9, 10]
  | 10 => some [3, 5, 6, 8, 9, 10]
  | 13 => some [3, 5, 6, 8, 9, 10, 29, 30]
  | 10003 => some [3, 8, 9, 10]
  | 10012 => some [3, 5, 6, 8, 9, 10, 29, 30]
  | _ => none
def live24 (n : Nat) : Option (List Nat) := match n with
  | _ => none
def live25 (n : Nat) : Option (List Nat) := match n with
  | 4 => some [3, 10, 11, 12]
  | 8 => some [3, 5, 6, 7, 10, 11, 12]
  | 10 => some [3, 5, 6, 7, 10, 11, 12]
  | 13 => some [3, 5, 7, 10, 11, 12, 27, 28]
  | 10003 => some [3, 10, 11, 12]
  | 10012 => some [3, 5, 7, 10, 11, 12, 27, 28]
  | _ => none
def live26 (n : Nat) : Option (List Nat) := match n with
  | _ => none
def live27 (n : Nat) : Option (List Nat) := match n with
  | 3 => some [0, 2, 3]
  | 5 => some [2, 3, 16, 17, 18]
  | 7 => some [2, 3, 10, 16, 17, 18, 41]
  | 8 => some [2, 3, 10, 16, 17, 18]
  | 11 => some [2, 3, 10, 11, 16, 17, 18]
  | 10004 => some [2, 3, 16, 17, 18]
  | 10009 => some [2, 3, 10, 11, 16, 17, 18]
  | _ => none
def live28 (n : Nat) : Option (List Nat) := match n with
  | _ => none
def live29 (n : Nat) : Option (List Nat) := match n with
  | 5 => some [1, 6, 8, 9, 20, 21, 22]
  | 7 => some [1, 6, 8, 9, 11, 20, 21, 22]
  | 16 => some [1, 6, 8, 9, 12, 20, 21, 22]
  | 18 => some [1, 6, 8, 9, 12, 20, 21, 22]
  | 21 => some [1, 6, 8, 9, 11, 12, 13, 20, 21, 22, 60]
  | 26 => some [1, 6, 8, 9, 13, 14, 20, 21, 22]
  | 28 => some [1, 6, 8, 9, 13, 14, 20, 21, 22]
  | 33 => some [1, 6, 8, 9]
  | 10004 => some [1, 6, 8, 9, 20, 21, 22]
  | _ => none
def live30 (n : Nat) : Option (List Nat) := match n with
  | 4 => some [3, 6, 7, 8]
  | 10003 => some [3, 6, 7, 8]
  | _ => none
def live32 (n : Nat) : Option (List Nat) := match n with
  | 4 => some [3, 6, 7, 8]
  | 10003 => some [3, 6, 7, 8]
  | _ => none
def live33 (n : Nat) : Option (List Nat) := match n with
  | 6 => some [0, 3, 4, 5]
  | 7 => some [0, 3, 4, 5, 21]
  | 10004 => some [0, 3, 4, 5]
  | _ => none
def live34 (n : Nat) : Option (List Nat) := match n with
  | 5 => some [0, 4, 5]
  | 7 => some [0, 4, 5]
  | 8 => some [0, 4, 5, 42]
  | 9 => some [0, 4, 5]
  | 10003 => some [0, 4, 5]
  | _ => none
def live35 (n : Nat) : Option (List Nat) := match n with
  | 2 => some [0, 4]
  | 3 => some [0, 4, 25]
  | 4 => some [0, 4]
  | 6 => some [0, 4]
  | 9 => some [0, 4, 5, 31, 32]
  | 11 => some [0, 4, 5, 6, 31, 32, 44]
  | 12 => some [0, 4, 5, 6, 31, 32]
  | 14 => some [4, 5]
  | 10008 => some [0, 4, 5, 31, 32]
  | _ => none
def live36 (n : Nat) : Option (List Nat) := match n with
  | 4 => some [0, 3, 6, 7]
  | 10003 => some [0, 3, 6, 7]
  | _ => none
def live37 (n : Nat) : Option (List Nat) := match n with
  | 3 => some [0, 3]
  | 5 => some [0, 3]
  | 10002 => some [0, 3]
  | _ => none
def live40 (n : Nat) : Option (List Nat) := match n with
  | _ => none
def live41 (n : Nat) : Option (List Nat) := match n with
  | 6 => some [0, 5, 6, 13, 14]
  | 10 => some [0, 5, 6]
  | 16 => some [0, 1, 5, 8]
  | 10005 => some [0, 5, 6, 13]
  | 10013 => some [0, 1, 5]
  | _ => none
def live42 (n : Nat) : Option (List Nat) := match n with
  | 5 => some [0, 1, 2, 7, 8]
  | 10002 => some [0, 1, 2, 7]
  | _ => none
def live43 (n : Nat) : Option (List Nat) := match n with
  | 5 => some [0, 4, 5]
  | 9 => some [0, 4, 5, 43]
  | 12 => some [0]
  | 13 => some [0, 4, 5]
  | 10003 => some [0, 4, 5]
  | _ => none
def live45 (n : Nat) : Option (List Nat) := match n with
  | _ => none
def live49 (n : Nat) : Option (List Nat) := match n with
  | 5 => some [0, 3, 4]
  | 8 => some [0, 3, 4, 5, 24]
  | 10003 => some [0, 3, 4]
  | _ => none
def live52 (n : Nat) : Option (List Nat) := match n with
  | 5 => some [0, 3, 4]
  | 6 => some [0, 3, 4, 22]
  | 10 => some [0, 3, 4]
  | 10003 => some [0, 3, 4]
  | _ => none
def live53 (n : Nat) : Option (List Nat) := match n with
  | 2 => some [0, 3]
  | 4 => some [0, 13]
  | 6 => some [0, 24]
  | _ => none
def live54 (n : Nat) : Option (List Nat) := match n with
  | 2 => some [0, 26]
  | 3 => some [0]
  | 5 => some [0, 28, 29, 30]
  | 10004 => some [0, 28, 29, 30]
  | _ => none
def live55 (n : Nat) : Option (List Nat) := match n with
  | 5 => some [0, 3, 4]
  | 10003 => some [0, 3, 4]
  | _ => none
def live56 (n : Nat) : Option (List Nat) := match n with
  | 4 => some [0, 1, 5]
  | 10002 => some [0, 1, 5]
  | _ => none
def live57 (n : Nat) : Option (List Nat) := match n with
  | 2 => some [0, 3]
  | 4 => some [0, 12]
  | 6 => some [0, 22]
  | _ => none
def live64 (n : Nat) : Option (List Nat) := match n with
  | _ => none
def liveOf (f : FuncId) : Nat → Option (List Nat) := match f with
  | 3 => live3
  | 4 => live4
  | 5 => live5
  | 6 => live6
  | 7 => live7
  | 8 => live8
  | 9 => live9
  | 10 => live10
  | 11 => live11
  | 12 => live12
  | 13 => live13
  | 14 => live14
  | 15 => live15
  | 16 => live16
  | 17 => live17
  | 18 => live18
  | 19 => live19
  | 20 => live20
  | 21 => live21
  | 22 => live22
  | 23 => live23
  | 24 => live24
  | 25 => live25
  | 26 => live26
  | 27 => live27
  | 28 => live28
  | 29 => live29
  | 30 => live30
  | 32 => live32
  | 33 => live33
  | 34 => live34
  | 35 => live35
  | 36 => live36
  | 37 => live37
  | 40 => live40
  | 41 => live41
  | 42 => live42
  | 43 => live43
  | 45 => live45
  | 49 => live49
  | 52 => live52
  | 53 => live53
  | 54 => live54
  | 55 => live55
  | 56 => live56
  | 57 => live57
  | 64 => live64
  | _ => fun _ => none
def validE (s : ByteArray) : Option Bool := if s.size ≤ 9223372036854775807 then some (Go.Lib.validD s.data.toList) else none
def wr3 (acc : List UInt8) (a b c : ByteArray) : Option (List UInt8) := if acc.length + a.size + b.size + c.size ≤ 140737488355328 then some (acc ++ a.data.toList ++ b.data.toList ++ c.data.toList) else none
def htmlF (esc : ByteArray → Option ByteArray) : List (Int × ByteArray) → List UInt8 → Option (List UInt8)
  | [], acc => some acc
  | d :: r, acc => (esc d.2).bind fun t =>
    if d.1 = 1 then (wr3 acc (⟨#[60, 105, 110, 115, 32, 115, 116, 121, 108, 101, 61, 34, 98, 97, 99, 107, 103, 114, 111, 117, 110, 100, 58, 35, 101, 54, 102, 102, 101, 54, 59, 34, 62]⟩ : ByteArray) t (⟨#[60, 47, 105, 110, 115, 62]⟩ : ByteArray)).bind (htmlF esc r)
    else if d.1 = -1 then (wr3 acc (⟨#[60, 100, 101, 108, 32, 115, 116, 121, 108, 101, 61, 34, 98, 97, 99, 107, 103, 114, 111, 117, 110, 100, 58, 35, 102, 102, 101, 54, 101, 54, 59, 34, 62]⟩ : ByteArray) t (⟨#[60, 47, 100, 101, 108, 62]⟩ : ByteArray)).bind (htmlF esc r)
    else if d.1 = 0 then (wr3 acc (⟨#[60, 115, 112, 97, 110, 62]⟩ : ByteArray) t (⟨#[60, 47, 115, 112, 97, 110, 62]⟩ : ByteArray)).bind (htmlF esc r)
    else htmlF esc r acc
def htmlE (esc : ByteArray → Option ByteArray) (l : List (Int × ByteArray)) : Option ByteArray := if l.length ≤ 1000000000 then (htmlF esc l []).map fun b => ⟨b.toArray⟩ else none
def linesF (col : ByteArray) : List ByteArray → List UInt8 → Option (List UInt8)
  | [], acc => some acc
  | [s], acc => wr3 acc col s (⟨#[27, 91, 48, 109]⟩ : ByteArray)
  | s :: t :: r, acc => (wr3 acc col s (⟨#[27, 91, 48, 109, 10]⟩ : ByteArray)).bind (linesF col (t :: r))
def ptextF (split : ByteArray → Option (List ByteArray)) : List (Int × ByteArray) → List UInt8 → Option (List UInt8)
  | [], acc => some acc
  | d :: r, acc =>
    if d.1 = 1 then ((split d.2).bind fun ls => if 1 ≤ ls.length ∧ ls.length ≤ 1000000000 then linesF (⟨#[27, 91, 51, 50, 109]⟩ : ByteArray) ls acc else none).bind (ptextF split r)
    else if d.1 = -1 then ((split d.2).bind fun ls => if 1 ≤ ls.length ∧ ls.length ≤ 1000000000 then linesF (⟨#[27, 91, 51, 49, 109]⟩ : ByteArray) ls acc else none).bind (ptextF split r)
    else if d.1 = 0 then (if acc.length + d.2.size ≤ 140737488355328 then ptextF split r (acc ++ d.2.data.toList) else none)
    else ptextF split r acc
def ptextE (split : ByteArray → Option (List ByteArray)) (l : List (Int × ByteArray)) : Option ByteArray := if l.length ≤ 1000000000 then (ptextF split l []).map fun b => ⟨b.toArray⟩ else none
def deltaF (esc num : ByteArray → Option ByteArray) : List (Int × ByteArray) → List UInt8 → Option (List UInt8)
  | [], acc => some acc
  | d :: r, acc =>
    if d.1 = 1 then ((esc d.2).bind fun t => wr3 acc (⟨#[43]⟩ : ByteArray) t (⟨#[9]⟩ : ByteArray)).bind (deltaF esc num r)
    else if d.1 = -1 then ((num d.2).bind fun t => wr3 acc (⟨#[45]⟩ : ByteArray) t (⟨#[9]⟩ : ByteArray)).bind (deltaF esc num r)
    else if d.1 = 0 then ((num d.2).bind fun t => wr3 acc (⟨#[61]⟩ : ByteArray) t (⟨#[9]⟩ : ByteArray)).bind (deltaF esc num r)
    else deltaF esc num r acc
def deltaE (esc num : ByteArray → Option ByteArray) (cnt : ByteArray → Option Int) (un : ByteArray → Option ByteArray) (l : List (Int × ByteArray)) : Option ByteArray :=
  if l.length ≤ 1000000000 then (deltaF esc num l []).bind fun b =>
    if b = [] then some ⟨#[]⟩ else (cnt ⟨b.toArray⟩).bind fun n => if 1 ≤ n ∧ n ≤ b.length ∧ b.length ≤ 140737488355328 then un (ByteArray.extract ⟨b.toArray⟩ 0 (n.toNat - 1)) else none
  else none
def itoa2 (n : Nat) : List UInt8 := if n < 10 then [UInt8.ofNat (48 + n)] else if n < 100 then [UInt8.ofNat (48 + n / 10), UInt8.ofNat (48 + n % 10)] else [UInt8.ofNat (48 + n / 10 / 10), UInt8.ofNat (48 + n / 10 % 10), UInt8.ofNat (48 + n % 10)]
def itoaE (n : Int) : Option ByteArray := if 0 ≤ n ∧ n < 1000 then some ⟨(itoa2 n.toNat).toArray⟩ else none
def parseIntE (s : ByteArray) (b z : Int) : Option (Int × Unit) := if s.size ≤ 9223372036854775806 ∧ b = 10 ∧ z = 0 then (match Go.Lib.parseIntB 64 s.data.toList with
  | .ok v => some (v, ())
  | _ => none) else none
def runeCountE (s : ByteArray) : Option Int := if s.size < 9223372036854775807 then some (Go.Lib.runeCount s : Int) else none
def fpick (neg : Bool) (win : Ordering) (x y : Nat) : Nat :=
  if FloatKind.f64.decode x == .infinity neg || FloatKind.f64.decode y == .infinity neg then FloatKind.f64.encode (.infinity neg)
  else if (FloatKind.f64.decode x).isNaN || (FloatKind.f64.decode y).isNaN then 0x7FF8000000000001
  else if (FloatKind.f64.decode x).isZero && (FloatKind.f64.decode y).isZero then (if (FloatKind.f64.decode x).neg == neg then x else y)
  else if (FloatKind.f64.decode x).order (FloatKind.f64.decode y) == some win then x else y
def extG (cf : (f : FuncId) → argL (sg f).ps → Option (retL (sg f).rs)) (f : FuncId) : argL (sg f).ps → Option (retL (sg f).rs) := match f with
  | 31 => fun x => deltaE (fun s => (cf 49 (s, ())).bind fun t => cf 42 (t, (⟨#[43]⟩ : ByteArray), (⟨#[32]⟩ : ByteArray), ())) (fun s => (cf 50 (s, ())).bind fun n => cf 47 (n, ())) (fun s => cf 50 (s, ())) (fun s => cf 52 (s, ())) x.2.1
  | 38 => fun x => ptextE (fun s => cf 41 (s, (⟨#[10]⟩ : ByteArray), ())) x.2.1
  | 39 => fun x => htmlE (fun s => (cf 55 (s, ())).bind fun t => cf 42 (t, (⟨#[10]⟩ : ByteArray), (⟨#[38, 112, 97, 114, 97, 59, 60, 98, 114, 62]⟩ : ByteArray), ())) x.2.1
  | 44 => fun x => validE x.1
  | 46 => fun x => parseIntE x.1 x.2.1 x.2.2.1
  | 47 => fun x => itoaE x.1
  | 50 => fun x => runeCountE x.1
  | _ => fun _ => none
def isExt (f : FuncId) : Bool := Nat.beq f 31 || Nat.beq f 38 || Nat.beq f 39 || Nat.beq f 44 || Nat.beq f 46 || Nat.beq f 47 || Nat.beq f 50
def extF (cf : (f : FuncId) → argL (sg f).ps → Option (retL (sg f).rs)) (f : FuncId) : argL (sg f).ps → Option (retL (sg f).rs) := cond (isExt f) (extG cf f) (fun _ => none)
noncomputable def callFT (T : Tab) : Nat → (f : FuncId) → argL (sg f).ps → Option (retL (sg f).rs)
  | 0, _, _ => none
  | k + 1, f, xs => match fnOf f with
    | some fn => evalF T sg (callFT T k) (liveOf f) k fn (sg f) xs
    | none => extF (callFT T k) f xs
noncomputable abbrev callF : Nat → (f : FuncId) → argL (sg f).ps → Option (retL (sg f).rs) := callFT T
/-- The table with comparisons that compute. -/
noncomputable def Tc : Tab where
  ty := T.ty
  sl := T.sl
  eq := T.eq
  lt := fun x y => decide (x < y)
  le := fun x y => decide (x ≤ y)
  eqI := fun x y => decide (x = y)
  nle := fun x y => Nat.ble x y
  eqS := fun x y => x.data.toList == y.data.toList
  i2f := i2fI
  f2iOk := f2iOkI
  f2i := f2iI
  fo := foI
  faOk := faOkI
  fa := faI
  rd := T.rd
noncomputable def DiffToDelta (K : Nat) (x1 : List TS0.den) : Option (ByteArray) := callF K 31 ((), x1, ())
noncomputable def DiffPrettyText (K : Nat) (x1 : List TS0.den) : Option (ByteArray) := callF K 38 ((), x1, ())
noncomputable def DiffPrettyHtml (K : Nat) (x1 : List TS0.den) : Option (ByteArray) := callF K 39 ((), x1, ())
noncomputable def ValidString (K : Nat) (x0 : ByteArray) : Option (Bool) := callF K 44 (x0, ())
noncomputable def ParseInt (K : Nat) (x0 : ByteArray) (x1 : Int) (x2 : Int) : Option (Int × Unit) := callF K 46 (x0, x1, x2, ())
noncomputable def Itoa (K : Nat) (x0 : Int) : Option (ByteArray) := callF K 47 (x0, ())
noncomputable def RuneCountInString (K : Nat) (x0 : ByteArray) : Option (Int) := callF K 50 (x0, ())
/-! ### FnDeltaBack: function 3 -/
noncomputable def FnDeltaBack (K : Nat) (x0 : List TS1.den) : Option (Bool) := callF K 3 (x0, ())
noncomputable def FnDeltaBack_j0 (K k : Nat) (x0 : List TS1.den) : Option (Bool) := jumpF T sg (callF K) live3 k Go.Proofs.Tryd.f3 [.v .bool] [.r, .r] ⟨[(0, (.sl 0))], [(0, some ⟨TS1, 40, false, x0⟩)]⟩
noncomputable def FnDeltaBack_j1 (K k : Nat) (x0 : List TS1.den) : Option (Bool) := jumpF T sg (callF K) live3 k Go.Proofs.Tryd.f3 [.v .bool] [.r, .r, .r] ⟨[(0, (.sl 0))], [(0, some ⟨TS1, 40, false, x0⟩)]⟩
/-! ### FnDeltaRead: function 4 -/
noncomputable def FnDeltaRead (K : Nat) (x0 : ByteArray) (x1 : ByteArray) : Option (Bool) := callF K 4 (x0, x1, ())
noncomputable def FnDeltaRead_j0 (K k : Nat) (x0 : ByteArray) (x1 : ByteArray) (x17 : Bool) : Option (Bool) := jumpF T sg (callF K) live4 k Go.Proofs.Tryd.f4 [.v .bool] [.r, .l, .r] ⟨[(0, (.v .str x0)), (1, (.v .str x1)), (17, (.v .bool x17))], []⟩
noncomputable def FnDeltaRead_j1 (K k : Nat) (x0 : ByteArray) (x1 : ByteArray) : Option (Bool) := jumpF T sg (callF K) live4 k Go.Proofs.Tryd.f4 [.v .bool] [.r, .r] ⟨[(0, (.v .str x0)), (1, (.v .str x1))], []⟩
noncomputable def FnDeltaRead_j2 (K k : Nat) (x0 : ByteArray) (x1 : ByteArray) (x30 : Bool) : Option (Bool) := jumpF T sg (callF K) live4 k Go.Proofs.Tryd.f4 [.v .bool] [.r, .r, .l, .r] ⟨[(0, (.v .str x0)), (1, (.v .str x1)), (30, (.v .bool x30))], []⟩
noncomputable def FnDeltaRead_j3 (K k : Nat) (x0 : ByteArray) (x1 : ByteArray) : Option (Bool) := jumpF T sg (callF K) live4 k Go.Proofs.Tryd.f4 [.v .bool] [.r, .r, .r] ⟨[(0, (.v .str x0)), (1, (.v .str x1))], []⟩
noncomputable def FnDeltaRead_j4 (K k : Nat) (x0 : ByteArray) (x1 : ByteArray) (x5 : List TS1.den) (x6 : ByteArray) : Option (Bool) := jumpF T sg (callF K) live4 k Go.Proofs.Tryd.f4 [.v .bool] [.r, .r, .r, .r, .r] ⟨[(0, (.v .str x0)), (1, (.v .str x1)), (5, (.sl 5)), (6, (.v .str x6))], [(5, some ⟨TS1, 52, true, x5⟩)]⟩
noncomputable def FnDeltaRead_j5 (K k : Nat) (x5 : List TS1.den) (x8 : List TS1.den) (x9 : ByteArray) : Option (Bool) := jumpF T sg (callF K) live4 k Go.Proofs.Tryd.f4 [.v .bool] [.r, .r, .r, .r, .r, .r, .r] ⟨[(5, (.sl 5)), (8, (.sl 8)), (9, (.v .str x9))], [(5, some ⟨TS1, 52, true, x5⟩), (8, some ⟨TS1, 40, true, x8⟩)]⟩
/-! ### FnDeltaText: function 5 -/
noncomputable def FnDeltaText (K : Nat) (x0 : ByteArray) (x1 : ByteArray) : Option (Bool) := callF K 5 (x0, x1, ())
noncomputable def FnDeltaText_j0 (K k : Nat) (x0 : ByteArray) (x1 : ByteArray) (x18 : Bool) : Option (Bool) := jumpF T sg (callF K) live5 k Go.Proofs.Tryd.f5 [.v .bool] [.r, .l, .r] ⟨[(0, (.v .str x0)), (1, (.v .str x1)), (18, (.v .bool x18))], []⟩
noncomputable def FnDeltaText_j1 (K k : Nat) (x0 : ByteArray) (x1 : ByteArray) : Option (Bool) := jumpF T sg (callF K) live5 k Go.Proofs.Tryd.f5 [.v .bool] [.r, .r] ⟨[(0, (.v .str x0)), (1, (.v .str x1))], []⟩
noncomputable def FnDeltaText_j2 (K k : Nat) (x0 : ByteArray) (x1 : ByteArray) (x31 : Bool) : Option (Bool) := jumpF T sg (callF K) live5 k Go.Proofs.Tryd.f5 [.v .bool] [.r, .r, .l, .r] ⟨[(0, (.v .str x0)), (1, (.v .str x1)), (31, (.v .bool x31))], []⟩
noncomputable def FnDeltaText_j3 (K k : Nat) (x0 : ByteArray) (x1 : ByteArray) : Option (Bool) := jumpF T sg (callF K) live5 k Go.Proofs.Tryd.f5 [.v .bool] [.r, .r, .r] ⟨[(0, (.v .str x0)), (1, (.v .str x1))], []⟩
noncomputable def FnDeltaText_j4 (K k : Nat) (x0 : ByteArray) (x1 : ByteArray) (x45 : Bool) : Option (Bool) := jumpF T sg (callF K) live5 k Go.Proofs.Tryd.f5 [.v .bool] [.r, .r, .r, .l, .r, .r] ⟨[(0, (.v .str x0)), (1, (.v .str x1)), (45, (.v .bool x45))], []⟩
noncomputable def FnDeltaText_j5 (K k : Nat) (x0 : ByteArray) (x1 : ByteArray) : Option (Bool) := jumpF T sg (callF K) live5 k Go.Proofs.Tryd.f5 [.v .bool] [.r, .r, .r, .r] ⟨[(0, (.v .str x0)), (1, (.v .str x1))], []⟩
noncomputable def FnDeltaText_j6 (K k : Nat) (x0 : ByteArray) (x8 : List TS1.den) (x61 : Bool) : Option (Bool) := jumpF T sg (callF K) live5 k Go.Proofs.Tryd.f5 [.v .bool] [.r, .r, .r, .r, .r, .l, .r] ⟨[(0, (.v .str x0)), (8, (.sl 8)), (61, (.v .bool x61))], [(8, some ⟨TS1, 40, true, x8⟩)]⟩
noncomputable def FnDeltaText_j7 (K k : Nat) (x0 : ByteArray) (x8 : List TS1.den) : Option (Bool) := jumpF T sg (callF K) live5 k Go.Proofs.Tryd.f5 [.v .bool] [.r, .r, .r, .r, .r, .r] ⟨[(0, (.v .str x0)), (8, (.sl 8))], [(8, some ⟨TS1, 40, true, x8⟩)]⟩
/-! ### FnDeltaWrite: function 6 -/
noncomputable def FnDeltaWrite (K : Nat) (x0 : List TS1.den) : Option (Bool) := callF K 6 (x0, ())
noncomputable def FnDeltaWrite_j0 (K k : Nat) (x0 : List TS1.den) : Option (Bool) := jumpF T sg (callF K) live6 k Go.Proofs.Tryd.f6 [.v .bool] [.r, .r] ⟨[(0, (.sl 0))], [(0, some ⟨TS1, 40, false, x0⟩)]⟩
noncomputable def FnDeltaWrite_j1 (K k : Nat) (x0 : List TS1.den) : Option (Bool) := jumpF T sg (callF K) live6 k Go.Proofs.Tryd.f6 [.v .bool] [.r, .r, .r] ⟨[(0, (.sl 0))], [(0, some ⟨TS1, 40, false, x0⟩)]⟩
/-! ### FnPrettyText: function 7 -/
noncomputable def FnPrettyText (K : Nat) (x0 : List TS1.den) : Option (Bool) := callF K 7 (x0, ())
noncomputable def FnPrettyText_j0 (K k : Nat) (x0 : List TS1.den) : Option (Bool) := jumpF T sg (callF K) live7 k Go.Proofs.Tryd.f7 [.v .bool] [.r, .r] ⟨[(0, (.sl 0))], [(0, some ⟨TS1, 40, false, x0⟩)]⟩
noncomputable def FnPrettyText_j1 (K k : Nat) (x0 : List TS1.den) : Option (Bool) := jumpF T sg (callF K) live7 k Go.Proofs.Tryd.f7 [.v .bool] [.r, .r, .r] ⟨[(0, (.sl 0))], [(0, some ⟨TS1, 40, false, x0⟩)]⟩
/-! ### FnPrettyHtml: function 8 -/
noncomputable def FnPrettyHtml (K : Nat) (x0 : List TS1.den) : Option (Bool) := callF K 8 (x0, ())
noncomputable def FnPrettyHtml_j0 (K k : Nat) (x0 : List TS1.den) : Option (Bool) := jumpF T sg (callF K) live8 k Go.Proofs.Tryd.f8 [.v .bool] [.r, .r] ⟨[(0, (.sl 0))], [(0, some ⟨TS1, 40, false, x0⟩)]⟩
noncomputable def FnPrettyHtml_j1 (K k : Nat) (x0 : List TS1.den) : Option (Bool) := jumpF T sg (callF K) live8 k Go.Proofs.Tryd.f8 [.v .bool] [.r, .r, .r] ⟨[(0, (.sl 0))], [(0, some ⟨TS1, 40, false, x0⟩)]⟩
/-! ### FnPrettyApart: function 9 -/
noncomputable def FnPrettyApart (K : Nat) (x0 : List TS1.den) (x1 : Int) : Option (Bool) := callF K 9 (x0, x1, ())
noncomputable def FnPrettyApart_j0 (K k : Nat) (x0 : List TS1.den) (x1 : Int) : Option (Bool) := jumpF T sg (callF K) live9 k Go.Proofs.Tryd.f9 [.v .bool] [.r, .r] ⟨[(0, (.sl 0)), (1, (.v (.int .u8) x1))], [(0, some ⟨TS1, 40, false, x0⟩)]⟩
noncomputable def FnPrettyApart_j1 (K k : Nat) (x0 : List TS1.den) (x1 : Int) : Option (Bool) := jumpF T sg (callF K) live9 k Go.Proofs.Tryd.f9 [.v .bool] [.r, .r, .r] ⟨[(0, (.sl 0)), (1, (.v (.int .u8) x1))], [(0, some ⟨TS1, 40, false, x0⟩)]⟩
/-! ### zzFits3: function 10 -/
noncomputable def zzFits3 (K : Nat) (x0 : List TS1.den) : Option (Bool) := callF K 10 (x0, ())
noncomputable def zzFits3_j0 (K k : Nat) (x0 : List TS1.den) : Option (Bool) := jumpF T sg (callF K) live10 k Go.Proofs.Tryd.f10 [.v .bool] [.r, .r] ⟨[(0, (.sl 0))], [(0, some ⟨TS1, 40, false, x0⟩)]⟩
noncomputable def zzFits3_l0 (K k : Nat) (x8 : List TS1.den) (x9 : Int) (x10 : Int) : Option (Bool) := jumpF T sg (callF K) live10 k Go.Proofs.Tryd.f10 [.v .bool] [.r, .r, .l, .r, .b] ⟨[(8, (.sl 8)), (9, (.v (.int .i64) x9)), (10, (.v (.int .i64) x10))], [(8, some ⟨TS1, 40, false, x8⟩)]⟩
noncomputable def zzFits3_j1 (K k : Nat) (x8 : List TS1.den) (x9 : Int) (x10 : Int) : Option (Bool) := jumpF T sg (callF K) live10 k Go.Proofs.Tryd.f10 [.v .bool] [.r, .r, .l, .r, .b, .lp, .r, .r] ⟨[(8, (.sl 8)), (9, (.v (.int .i64) x9)), (10, (.v (.int .i64) x10))], [(8, some ⟨TS1, 40, false, x8⟩)]⟩
/-! ### cleanFew: function 11 -/
noncomputable def cleanFew (K : Nat) (x0 : List TS1.den) : Option (Bool) := callF K 11 (x0, ())
/-! ### deltaAwake: function 12 -/
noncomputable def deltaAwake (K : Nat) : Option (Bool) := callF K 12 ()
/-! ### FromDelta: function 13 -/
noncomputable def FromDelta (K : Nat) (x0 : ByteArray) (x1 : ByteArray) : Option ((List TS1.den) × ByteArray) := callF K 13 (x0, x1, ())
noncomputable def FromDelta_j0 (K k : Nat) (x6 : List TS0.den) : Option ((List TS1.den) × ByteArray) := jumpF T sg (callF K) live13 k Go.Proofs.Tryd.f13 [.sl TS1 40, .v .str] [.r, .r, .r] ⟨[(6, (.sl 6))], [(6, some ⟨TS0, 76, true, x6⟩)]⟩
/-! ### CleanSide: function 14 -/
noncomputable def CleanSide (K : Nat) (x0 : List TS1.den) (x1 : Int) : Option (ByteArray) := callF K 14 (x0, x1, ())
noncomputable def CleanSide_l0 (K k : Nat) (x1 : Int) (x5 : ByteArray) (x8 : List TS1.den) (x9 : Int) (x10 : Int) : Option (ByteArray) := jumpF T sg (callF K) live14 k Go.Proofs.Tryd.f14 [.v .str] [.r, .r, .l, .r, .b] ⟨[(1, (.v (.int .i64) x1)), (5, (.v .str x5)), (8, (.sl 8)), (9, (.v (.int .i64) x9)), (10, (.v (.int .i64) x10))], [(8, some ⟨TS1, 52, false, x8⟩)]⟩
noncomputable def CleanSide_j0 (K k : Nat) (x1 : Int) (x5 : ByteArray) (x8 : List TS1.den) (x9 : Int) (x10 : Int) : Option (ByteArray) := jumpF T sg (callF K) live14 k Go.Proofs.Tryd.f14 [.v .str] [.r, .r, .l, .r, .b, .lp, .r, .r] ⟨[(1, (.v (.int .i64) x1)), (5, (.v .str x5)), (8, (.sl 8)), (9, (.v (.int .i64) x9)), (10, (.v (.int .i64) x10))], [(8, some ⟨TS1, 52, false, x8⟩)]⟩
/-! ### cleanOf: function 15 -/
noncomputable def cleanOf (K : Nat) (x0 : List TS1.den) : Option (List TS1.den) := callF K 15 (x0, ())
noncomputable def cleanOf_l0 (K k : Nat) (x3 : List TS1.den) (x6 : List TS1.den) (x7 : Int) (x8 : Int) : Option (List TS1.den) := jumpF T sg (callF K) live15 k Go.Proofs.Tryd.f15 [.sl TS1 52] [.r, .r, .l, .r, .b] ⟨[(3, (.sl 3)), (6, (.sl 6)), (7, (.v (.int .i64) x7)), (8, (.v (.int .i64) x8))], [(3, some ⟨TS1, 52, true, x3⟩), (6, some ⟨TS1, 40, false, x6⟩)]⟩
noncomputable def cleanOf_j0 (K k : Nat) (x3 : List TS1.den) (x6 : List TS1.den) (x7 : Int) (x8 : Int) : Option (List TS1.den) := jumpF T sg (callF K) live15 k Go.Proofs.Tryd.f15 [.sl TS1 52] [.r, .r, .l, .r, .b, .lp, .r, .r] ⟨[(3, (.sl 3)), (6, (.sl 6)), (7, (.v (.int .i64) x7)), (8, (.v (.int .i64) x8))], [(3, some ⟨TS1, 52, true, x3⟩), (6, some ⟨TS1, 40, false, x6⟩)]⟩
/-! ### ToDelta: function 16 -/
noncomputable def ToDelta (K : Nat) (x0 : List TS1.den) : Option (ByteArray) := callF K 16 (x0, ())
/-! ### cleanOwn: function 17 -/
noncomputable def cleanOwn (K : Nat) (x0 : List TS1.den) : Option (List TS1.den) := callF K 17 (x0, ())
/-! ### CleanSame: function 18 -/
noncomputable def CleanSame (K : Nat) (x0 : List TS1.den) (x1 : List TS1.den) : Option (Bool) := callF K 18 (x0, x1, ())
noncomputable def CleanSame_j0 (K k : Nat) (x0 : List TS1.den) (x1 : List TS1.den) : Option (Bool) := jumpF T sg (callF K) live18 k Go.Proofs.Tryd.f18 [.v .bool] [.r, .r] ⟨[(0, (.sl 0)), (1, (.sl 1))], [(0, some ⟨TS1, 52, false, x0⟩), (1, some ⟨TS1, 52, false, x1⟩)]⟩
noncomputable def CleanSame_l0 (K k : Nat) (x0 : List TS1.den) (x1 : List TS1.den) (x12 : Int) (x13 : Int) : Option (Bool) := jumpF T sg (callF K) live18 k Go.Proofs.Tryd.f18 [.v .bool] [.r, .r, .l, .r, .b] ⟨[(0, (.sl 0)), (1, (.sl 1)), (12, (.v (.int .i64) x12)), (13, (.v (.int .i64) x13))], [(0, some ⟨TS1, 52, false, x0⟩), (1, some ⟨TS1, 52, false, x1⟩)]⟩
noncomputable def CleanSame_j1 (K k : Nat) (x0 : List TS1.den) (x1 : List TS1.den) (x12 : Int) (x13 : Int) : Option (Bool) := jumpF T sg (callF K) live18 k Go.Proofs.Tryd.f18 [.v .bool] [.r, .r, .l, .r, .b, .lp, .r, .r] ⟨[(0, (.sl 0)), (1, (.sl 1)), (12, (.v (.int .i64) x12)), (13, (.v (.int .i64) x13))], [(0, some ⟨TS1, 52, false, x0⟩), (1, some ⟨TS1, 52, false, x1⟩)]⟩
/-! ### CleanChars: function 19 -/
noncomputable def CleanChars (K : Nat) (x0 : ByteArray) (x1 : Int) : Option (Bool) := callF K 19 (x0, x1, ())
/-! ### DeltaRead: function 20 -/
noncomputable def DeltaRead (K : Nat) (x0 : ByteArray) (x1 : ByteArray) : Option ((List TS1.den) × ByteArray × Bool) := callF K 20 (x0, x1, ())
noncomputable def DeltaRead_l0 (K k : Nat) (x7 : List Int) (x8 : List TS1.den) (x9 : Int) (x21 : List ByteArray) (x22 : Int) (x23 : Int) : Option ((List TS1.den) × ByteArray × Bool) := jumpF T sg (callF K) live20 k Go.Proofs.Tryd.f20 [.sl TS1 52, .v .str, .v .bool] [.r, .r, .r, .r, .l, .r, .b] ⟨[(7, (.sl 7)), (8, (.sl 8)), (9, (.v (.int .i64) x9)), (21, (.sl 21)), (22, (.v (.int .i64) x22)), (23, (.v (.int .i64) x23))], [(7, some ⟨(.int .i32), 21, true, x7⟩), (8, some ⟨TS1, 52, true, x8⟩), (21, some ⟨.str, 9, true, x21⟩)]⟩
noncomputable def DeltaRead_j0 (K k : Nat) (x7 : List Int) (x8 : List TS1.den) (x9 : Int) (x21 : List ByteArray) (x22 : Int) (x23 : Int) : Option ((List TS1.den) × ByteArray × Bool) := jumpF T sg (callF K) live20 k Go.Proofs.Tryd.f20 [.sl TS1 52, .v .str, .v .bool] [.r, .r, .r, .r, .l, .r, .b, .lp, .r, .r] ⟨[(7, (.sl 7)), (8, (.sl 8)), (9, (.v (.int .i64) x9)), (21, (.sl 21)), (22, (.v (.int .i64) x22)), (23, (.v (.int .i64) x23))], [(7, some ⟨(.int .i32), 21, true, x7⟩), (8, some ⟨TS1, 52, true, x8⟩), (21, some ⟨.str, 9, true, x21⟩)]⟩
noncomputable def DeltaRead_j1 (K k : Nat) (x7 : List Int) (x8 : List TS1.den) (x9 : Int) : Option ((List TS1.den) × ByteArray × Bool) := jumpF T sg (callF K) live20 k Go.Proofs.Tryd.f20 [.sl TS1 52, .v .str, .v .bool] [.r, .r, .r, .r, .r] ⟨[(7, (.sl 7)), (8, (.sl 8)), (9, (.v (.int .i64) x9))], [(7, some ⟨(.int .i32), 21, true, x7⟩), (8, some ⟨TS1, 52, true, x8⟩)]⟩
noncomputable def DeltaRead_j2 (K k : Nat) (x7 : List Int) (x8 : List TS1.den) (x9 : Int) (x13 : ByteArray) (x21 : List ByteArray) (x22 : Int) (x23 : Int) : Option ((List TS1.den) × ByteArray × Bool) := jumpF T sg (callF K) live20 k Go.Proofs.Tryd.f20 [.sl TS1 52, .v .str, .v .bool] [.r, .r, .r, .r, .l, .r, .b, .lp, .r, .r, .l, .b, .r, .r, .r, .b, .r, .l, .r, .r] ⟨[(7, (.sl 7)), (8, (.sl 8)), (9, (.v (.int .i64) x9)), (13, (.v .str x13)), (21, (.sl 21)), (22, (.v (.int .i64) x22)), (23, (.v (.int .i64) x23))], [(7, some ⟨(.int .i32), 21, true, x7⟩), (8, some ⟨TS1, 52, true, x8⟩), (21, some ⟨.str, 9, true, x21⟩)]⟩
noncomputable def DeltaRead_j3 (K k : Nat) (x7 : List Int) (x8 : List TS1.den) (x9 : Int) (x11 : ByteArray) (x12 : ByteArray) (x21 : List ByteArray) (x22 : Int) (x23 : Int) (x50 : Bool) : Option ((List TS1.den) × ByteArray × Bool) := jumpF T sg (callF K) live20 k Go.Proofs.Tryd.f20 [.sl TS1 52, .v .str, .v .bool] [.r, .r, .r, .r, .l, .r, .b, .lp, .r, .r, .l, .b, .r, .r, .r, .b, .r, .r, .r] ⟨[(7, (.sl 7)), (8, (.sl 8)), (9, (.v (.int .i64) x9)), (11, (.v .str x11)), (12, (.v .str x12)), (21, (.sl 21)), (22, (.v (.int .i64) x22)), (23, (.v (.int .i64) x23)), (50, (.v .bool x50))], [(7, some ⟨(.int .i32), 21, true, x7⟩), (8, some ⟨TS1, 52, true, x8⟩), (21, some ⟨.str, 9, true, x21⟩)]⟩
noncomputable def DeltaRead_j4 (K k : Nat) (x7 : List Int) (x8 : List TS1.den) (x9 : Int) (x13 : ByteArray) (x21 : List ByteArray) (x22 : Int) (x23 : Int) : Option ((List TS1.den) × ByteArray × Bool) := jumpF T sg (callF K) live20 k Go.Proofs.Tryd.f20 [.sl TS1 52, .v .str, .v .bool] [.r, .r, .r, .r, .l, .r, .b, .lp, .r, .r, .l, .b, .r, .r, .r, .b, .r, .l, .r, .r, .r] ⟨[(7, (.sl 7)), (8, (.sl 8)), (9, (.v (.int .i64) x9)), (13, (.v .str x13)), (21, (.sl 21)), (22, (.v (.int .i64) x22)), (23, (.v (.int .i64) x23))], [(7, some ⟨(.int .i32), 21, true, x7⟩), (8, some ⟨TS1, 52, true, x8⟩), (21, some ⟨.str, 9, true, x21⟩)]⟩
noncomputable def DeltaRead_j5 (K k : Nat) (x7 : List Int) (x8 : List TS1.den) (x9 : Int) (x11 : ByteArray) (x15 : Int) (x21 : List ByteArray) (x22 : Int) (x23 : Int) (x61 : Bool) : Option ((List TS1.den) × ByteArray × Bool) := jumpF T sg (callF K) live20 k Go.Proofs.Tryd.f20 [.sl TS1 52, .v .str, .v .bool] [.r, .r, .r, .r, .l, .r, .b, .lp, .r, .r, .l, .b, .r, .r, .r, .b, .r, .r, .r, .l, .r, .l, .b, .r, .r, .r] ⟨[(7, (.sl 7)), (8, (.sl 8)), (9, (.v (.int .i64) x9)), (11, (.v .str x11)), (15, (.v (.int .i64) x15)), (21, (.sl 21)), (22, (.v (.int .i64) x22)), (23, (.v (.int .i64) x23)), (61, (.v .bool x61))], [(7, some ⟨(.int .i32), 21, true, x7⟩), (8, some ⟨TS1, 52, true, x8⟩), (21, some ⟨.str, 9, true, x21⟩)]⟩
noncomputable def DeltaRead_j6 (K k : Nat) (x7 : List Int) (x8 : List TS1.den) (x9 : Int) (x11 : ByteArray) (x15 : Int) (x21 : List ByteArray) (x22 : Int) (x23 : Int) : Option ((List TS1.den) × ByteArray × Bool) := jumpF T sg (callF K) live20 k Go.Proofs.Tryd.f20 [.sl TS1 52, .v .str, .v .bool] [.r, .r, .r, .r, .l, .r, .b, .lp, .r, .r, .l, .b, .r, .r, .r, .b, .r, .r, .r, .l, .r, .r] ⟨[(7, (.sl 7)), (8, (.sl 8)), (9, (.v (.int .i64) x9)), (11, (.v .str x11)), (15, (.v (.int .i64) x15)), (21, (.sl 21)), (22, (.v (.int .i64) x22)), (23, (.v (.int .i64) x23))], [(7, some ⟨(.int .i32), 21, true, x7⟩), (8, some ⟨TS1, 52, true, x8⟩), (21, some ⟨.str, 9, true, x21⟩)]⟩
noncomputable def DeltaRead_j7 (K k : Nat) (x7 : List Int) (x8 : List TS1.den) (x9 : Int) (i17 : Int) (x17 : List TS1.den) (x21 : List ByteArray) (x22 : Int) (x23 : Int) : Option ((List TS1.den) × ByteArray × Bool) := jumpF T sg (callF K) live20 k Go.Proofs.Tryd.f20 [.sl TS1 52, .v .str, .v .bool] [.r, .r, .r, .r, .l, .r, .b, .lp, .r, .r, .l, .b, .r, .r, .r, .b, .r, .r, .r, .l, .r, .r, .r, .r, .l, .r, .r] ⟨[(7, (.sl 7)), (8, (.sl 8)), (9, (.v (.int .i64) x9)), (17, (.ptr 17 i17)), (21, (.sl 21)), (22, (.v (.int .i64) x22)), (23, (.v (.int .i64) x23))], [(7, some ⟨(.int .i32), 21, true, x7⟩), (8, some ⟨TS1, 52, true, x8⟩), (17, some ⟨TS1, 52, true, x17⟩), (21, some ⟨.str, 9, true, x21⟩)]⟩
/-! ### DeltaOf: function 21 -/
noncomputable def DeltaOf (K : Nat) (x0 : List TS1.den) : Option (ByteArray) := callF K 21 (x0, ())
noncomputable def DeltaOf_l0 (K k : Nat) (x3 : ByteArray) (x6 : List TS1.den) (x7 : Int) (x8 : Int) : Option (ByteArray) := jumpF T sg (callF K) live21 k Go.Proofs.Tryd.f21 [.v .str] [.r, .r, .l, .r, .b] ⟨[(3, (.v .str x3)), (6, (.sl 6)), (7, (.v (.int .i64) x7)), (8, (.v (.int .i64) x8))], [(6, some ⟨TS1, 52, false, x6⟩)]⟩
noncomputable def DeltaOf_j0 (K k : Nat) (x3 : ByteArray) (x6 : List TS1.den) (x7 : Int) (x8 : Int) : Option (ByteArray) := jumpF T sg (callF K) live21 k Go.Proofs.Tryd.f21 [.v .str] [.r, .r, .l, .r, .b, .lp, .r, .r] ⟨[(3, (.v .str x3)), (6, (.sl 6)), (7, (.v (.int .i64) x7)), (8, (.v (.int .i64) x8))], [(6, some ⟨TS1, 52, false, x6⟩)]⟩
noncomputable def DeltaOf_j1 (K k : Nat) (x3 : ByteArray) (i5 : Int) (x5 : List TS1.den) (x6 : List TS1.den) (x7 : Int) (x8 : Int) : Option (ByteArray) := jumpF T sg (callF K) live21 k Go.Proofs.Tryd.f21 [.v .str] [.r, .r, .l, .r, .b, .lp, .r, .r, .l, .b, .r, .r] ⟨[(3, (.v .str x3)), (5, (.ptr 5 i5)), (6, (.sl 6)), (7, (.v (.int .i64) x7)), (8, (.v (.int .i64) x8))], [(5, some ⟨TS1, 52, true, x5⟩), (6, some ⟨TS1, 52, false, x6⟩)]⟩
/-! ### PrettyText: function 22 -/
noncomputable def PrettyText (K : Nat) (x0 : List TS1.den) : Option (ByteArray) := callF K 22 (x0, ())
/-! ### PrettyLines: function 23 -/
noncomputable def PrettyLines (K : Nat) (x0 : List TS1.den) : Option (ByteArray) := callF K 23 (x0, ())
noncomputable def PrettyLines_l0 (K k : Nat) (x3 : ByteArray) (x8 : List TS1.den) (x9 : Int) (x10 : Int) : Option (ByteArray) := jumpF T sg (callF K) live23 k Go.Proofs.Tryd.f23 [.v .str] [.r, .r, .l, .r, .b] ⟨[(3, (.v .str x3)), (8, (.sl 8)), (9, (.v (.int .i64) x9)), (10, (.v (.int .i64) x10))], [(8, some ⟨TS1, 52, false, x8⟩)]⟩
noncomputable def PrettyLines_j0 (K k : Nat) (x3 : ByteArray) (x8 : List TS1.den) (x9 : Int) (x10 : Int) : Option (ByteArray) := jumpF T sg (callF K) live23 k Go.Proofs.Tryd.f23 [.v .str] [.r, .r, .l, .r, .b, .lp, .r, .r] ⟨[(3, (.v .str x3)), (8, (.sl 8)), (9, (.v (.int .i64) x9)), (10, (.v (.int .i64) x10))], [(8, some ⟨TS1, 52, false, x8⟩)]⟩
noncomputable def PrettyLines_j1 (K k : Nat) (x3 : ByteArray) (i5 : Int) (x5 : List TS1.den) (x8 : List TS1.den) (x9 : Int) (x10 : Int) : Option (ByteArray) := jumpF T sg (callF K) live23 k Go.Proofs.Tryd.f23 [.v .str] [.r, .r, .l, .r, .b, .lp, .r, .r, .l, .b, .r, .r] ⟨[(3, (.v .str x3)), (5, (.ptr 5 i5)), (8, (.sl 8)), (9, (.v (.int .i64) x9)), (10, (.v (.int .i64) x10))], [(5, some ⟨TS1, 52, true, x5⟩), (8, some ⟨TS1, 52, false, x8⟩)]⟩
noncomputable def PrettyLines_j2 (K k : Nat) (x3 : ByteArray) (i5 : Int) (x5 : List TS1.den) (x6 : ByteArray) (x8 : List TS1.den) (x9 : Int) (x10 : Int) : Option (ByteArray) := jumpF T sg (callF K) live23 k Go.Proofs.Tryd.f23 [.v .str] [.r, .r, .l, .r, .b, .lp, .r, .r, .l, .b, .r, .r, .r, .r] ⟨[(3, (.v .str x3)), (5, (.ptr 5 i5)), (6, (.v .str x6)), (8, (.sl 8)), (9, (.v (.int .i64) x9)), (10, (.v (.int .i64) x10))], [(5, some ⟨TS1, 52, true, x5⟩), (8, some ⟨TS1, 52, false, x8⟩)]⟩
noncomputable def PrettyLines_l1 (K k : Nat) (x3 : ByteArray) (i5 : Int) (x5 : List TS1.den) (x6 : ByteArray) (x8 : List TS1.den) (x9 : Int) (x10 : Int) (x29 : Int) (x30 : Int) : Option (ByteArray) := jumpF T sg (callF K) live23 k Go.Proofs.Tryd.f23 [.v .str] [.r, .r, .l, .r, .b, .lp, .r, .r, .l, .b, .r, .r, .r, .r, .r, .l, .r, .b] ⟨[(3, (.v .str x3)), (5, (.ptr 5 i5)), (6, (.v .str x6)), (8, (.sl 8)), (9, (.v (.int .i64) x9)), (10, (.v (.int .i64) x10)), (29, (.v (.int .i64) x29)), (30, (.v (.int .i64) x30))], [(5, some ⟨TS1, 52, true, x5⟩), (8, some ⟨TS1, 52, false, x8⟩)]⟩
noncomputable def PrettyLines_j3 (K k : Nat) (x3 : ByteArray) (i5 : Int) (x5 : List TS1.den) (x6 : ByteArray) (x8 : List TS1.den) (x9 : Int) (x10 : Int) (x29 : Int) (x30 : Int) : Option (ByteArray) := jumpF T sg (callF K) live23 k Go.Proofs.Tryd.f23 [.v .str] [.r, .r, .l, .r, .b, .lp, .r, .r, .l, .b, .r, .r, .r, .r, .r, .l, .r, .b, .lp, .r, .r] ⟨[(3, (.v .str x3)), (5, (.ptr 5 i5)), (6, (.v .str x6)), (8, (.sl 8)), (9, (.v (.int .i64) x9)), (10, (.v (.int .i64) x10)), (29, (.v (.int .i64) x29)), (30, (.v (.int .i64) x30))], [(5, some ⟨TS1, 52, true, x5⟩), (8, some ⟨TS1, 52, false, x8⟩)]⟩
/-! ### PrettyHTML: function 24 -/
noncomputable def PrettyHTML (K : Nat) (x0 : List TS1.den) : Option (ByteArray) := callF K 24 (x0, ())
/-! ### PrettyMarked: function 25 -/
noncomputable def PrettyMarked (K : Nat) (x0 : List TS1.den) : Option (ByteArray) := callF K 25 (x0, ())
noncomputable def PrettyMarked_l0 (K k : Nat) (x3 : ByteArray) (x10 : List TS1.den) (x11 : Int) (x12 : Int) : Option (ByteArray) := jumpF T sg (callF K) live25 k Go.Proofs.Tryd.f25 [.v .str] [.r, .r, .l, .r, .b] ⟨[(3, (.v .str x3)), (10, (.sl 10)), (11, (.v (.int .i64) x11)), (12, (.v (.int .i64) x12))], [(10, some ⟨TS1, 52, false, x10⟩)]⟩
noncomputable def PrettyMarked_j0 (K k : Nat) (x3 : ByteArray) (x10 : List TS1.den) (x11 : Int) (x12 : Int) : Option (ByteArray) := jumpF T sg (callF K) live25 k Go.Proofs.Tryd.f25 [.v .str] [.r, .r, .l, .r, .b, .lp, .r, .r] ⟨[(3, (.v .str x3)), (10, (.sl 10)), (11, (.v (.int .i64) x11)), (12, (.v (.int .i64) x12))], [(10, some ⟨TS1, 52, false, x10⟩)]⟩
noncomputable def PrettyMarked_j1 (K k : Nat) (x3 : ByteArray) (i5 : Int) (x5 : List TS1.den) (x6 : ByteArray) (x7 : ByteArray) (x10 : List TS1.den) (x11 : Int) (x12 : Int) : Option (ByteArray) := jumpF T sg (callF K) live25 k Go.Proofs.Tryd.f25 [.v .str] [.r, .r, .l, .r, .b, .lp, .r, .r, .l, .b, .r, .r, .r] ⟨[(3, (.v .str x3)), (5, (.ptr 5 i5)), (6, (.v .str x6)), (7, (.v .str x7)), (10, (.sl 10)), (11, (.v (.int .i64) x11)), (12, (.v (.int .i64) x12))], [(5, some ⟨TS1, 52, true, x5⟩), (10, some ⟨TS1, 52, false, x10⟩)]⟩
noncomputable def PrettyMarked_j2 (K k : Nat) (x3 : ByteArray) (i5 : Int) (x5 : List TS1.den) (x6 : ByteArray) (x7 : ByteArray) (x10 : List TS1.den) (x11 : Int) (x12 : Int) : Option (ByteArray) := jumpF T sg (callF K) live25 k Go.Proofs.Tryd.f25 [.v .str] [.r, .r, .l, .r, .b, .lp, .r, .r, .l, .b, .r, .r, .r, .r] ⟨[(3, (.v .str x3)), (5, (.ptr 5 i5)), (6, (.v .str x6)), (7, (.v .str x7)), (10, (.sl 10)), (11, (.v (.int .i64) x11)), (12, (.v (.int .i64) x12))], [(5, some ⟨TS1, 52, true, x5⟩), (10, some ⟨TS1, 52, false, x10⟩)]⟩
noncomputable def PrettyMarked_l1 (K k : Nat) (x3 : ByteArray) (i5 : Int) (x5 : List TS1.den) (x7 : ByteArray) (x10 : List TS1.den) (x11 : Int) (x12 : Int) (x27 : Int) (x28 : Int) : Option (ByteArray) := jumpF T sg (callF K) live25 k Go.Proofs.Tryd.f25 [.v .str] [.r, .r, .l, .r, .b, .lp, .r, .r, .l, .b, .r, .r, .r, .r, .r, .l, .r, .b] ⟨[(3, (.v .str x3)), (5, (.ptr 5 i5)), (7, (.v .str x7)), (10, (.sl 10)), (11, (.v (.int .i64) x11)), (12, (.v (.int .i64) x12)), (27, (.v (.int .i64) x27)), (28, (.v (.int .i64) x28))], [(5, some ⟨TS1, 52, true, x5⟩), (10, some ⟨TS1, 52, false, x10⟩)]⟩
noncomputable def PrettyMarked_j3 (K k : Nat) (x3 : ByteArray) (i5 : Int) (x5 : List TS1.den) (x7 : ByteArray) (x10 : List TS1.den) (x11 : Int) (x12 : Int) (x27 : Int) (x28 : Int) : Option (ByteArray) := jumpF T sg (callF K) live25 k Go.Proofs.Tryd.f25 [.v .str] [.r, .r, .l, .r, .b, .lp, .r, .r, .l, .b, .r, .r, .r, .r, .r, .l, .r, .b, .lp, .r, .r] ⟨[(3, (.v .str x3)), (5, (.ptr 5 i5)), (7, (.v .str x7)), (10, (.sl 10)), (11, (.v (.int .i64) x11)), (12, (.v (.int .i64) x12)), (27, (.v (.int .i64) x27)), (28, (.v (.int .i64) x28))], [(5, some ⟨TS1, 52, true, x5⟩), (10, some ⟨TS1, 52, false, x10⟩)]⟩
/-! ### zzFits4: function 26 -/
noncomputable def zzFits4 (K : Nat) (x0 : TS1.den) : Option (Bool) := callF K 26 (x0, ())
/-! ### CleanRight: function 27 -/
noncomputable def CleanRight (K : Nat) (x0 : List TS1.den) (x1 : Int) (x2 : Int) (x3 : Bool) : Option (Bool) := callF K 27 (x0, x1, x2, x3, ())
noncomputable def CleanRight_j0 (K k : Nat) (x0 : List TS1.den) (x2 : Int) (x3 : Bool) : Option (Bool) := jumpF T sg (callF K) live27 k Go.Proofs.Tryd.f27 [.v .bool] [.r, .r] ⟨[(0, (.sl 0)), (2, (.v (.int .i64) x2)), (3, (.v .bool x3))], [(0, some ⟨TS1, 52, false, x0⟩)]⟩
noncomputable def CleanRight_l0 (K k : Nat) (x2 : Int) (x3 : Bool) (x16 : List TS1.den) (x17 : Int) (x18 : Int) : Option (Bool) := jumpF T sg (callF K) live27 k Go.Proofs.Tryd.f27 [.v .bool] [.r, .r, .l, .r, .b] ⟨[(2, (.v (.int .i64) x2)), (3, (.v .bool x3)), (16, (.sl 16)), (17, (.v (.int .i64) x17)), (18, (.v (.int .i64) x18))], [(16, some ⟨TS1, 52, false, x16⟩)]⟩
noncomputable def CleanRight_j1 (K k : Nat) (x2 : Int) (x3 : Bool) (x16 : List TS1.den) (x17 : Int) (x18 : Int) : Option (Bool) := jumpF T sg (callF K) live27 k Go.Proofs.Tryd.f27 [.v .bool] [.r, .r, .l, .r, .b, .lp, .r, .r] ⟨[(2, (.v (.int .i64) x2)), (3, (.v .bool x3)), (16, (.sl 16)), (17, (.v (.int .i64) x17)), (18, (.v (.int .i64) x18))], [(16, some ⟨TS1, 52, false, x16⟩)]⟩
noncomputable def CleanRight_j2 (K k : Nat) (x2 : Int) (x3 : Bool) (i10 : Int) (x10 : List TS1.den) (x16 : List TS1.den) (x17 : Int) (x18 : Int) (x41 : Bool) : Option (Bool) := jumpF T sg (callF K) live27 k Go.Proofs.Tryd.f27 [.v .bool] [.r, .r, .l, .r, .b, .lp, .r, .r, .l, .b, .r, .l, .r] ⟨[(2, (.v (.int .i64) x2)), (3, (.v .bool x3)), (10, (.ptr 10 i10)), (16, (.sl 16)), (17, (.v (.int .i64) x17)), (18, (.v (.int .i64) x18)), (41, (.v .bool x41))], [(10, some ⟨TS1, 52, true, x10⟩), (16, some ⟨TS1, 52, false, x16⟩)]⟩
noncomputable def CleanRight_j3 (K k : Nat) (x2 : Int) (x3 : Bool) (i10 : Int) (x10 : List TS1.den) (x16 : List TS1.den) (x17 : Int) (x18 : Int) : Option (Bool) := jumpF T sg (callF K) live27 k Go.Proofs.Tryd.f27 [.v .bool] [.r, .r, .l, .r, .b, .lp, .r, .r, .l, .b, .r, .r] ⟨[(2, (.v (.int .i64) x2)), (3, (.v .bool x3)), (10, (.ptr 10 i10)), (16, (.sl 16)), (17, (.v (.int .i64) x17)), (18, (.v (.int .i64) x18))], [(10, some ⟨TS1, 52, true, x10⟩), (16, some ⟨TS1, 52, false, x16⟩)]⟩
noncomputable def CleanRight_l1 (K k : Nat) (x2 : Int) (x3 : Bool) (i10 : Int) (x10 : List TS1.den) (x11 : Int) (x16 : List TS1.den) (x17 : Int) (x18 : Int) : Option (Bool) := jumpF T sg (callF K) live27 k Go.Proofs.Tryd.f27 [.v .bool] [.r, .r, .l, .r, .b, .lp, .r, .r, .l, .b, .r, .r, .r, .b] ⟨[(2, (.v (.int .i64) x2)), (3, (.v .bool x3)), (10, (.ptr 10 i10)), (11, (.v (.int .i64) x11)), (16, (.sl 16)), (17, (.v (.int .i64) x17)), (18, (.v (.int .i64) x18))], [(10, some ⟨TS1, 52, true, x10⟩), (16, some ⟨TS1, 52, false, x16⟩)]⟩
noncomputable def CleanRight_j4 (K k : Nat) (x2 : Int) (x3 : Bool) (i10 : Int) (x10 : List TS1.den) (x11 : Int) (x16 : List TS1.den) (x17 : Int) (x18 : Int) : Option (Bool) := jumpF T sg (callF K) live27 k Go.Proofs.Tryd.f27 [.v .bool] [.r, .r, .l, .r, .b, .lp, .r, .r, .l, .b, .r, .r, .r, .b, .lp, .r] ⟨[(2, (.v (.int .i64) x2)), (3, (.v .bool x3)), (10, (.ptr 10 i10)), (11, (.v (.int .i64) x11)), (16, (.sl 16)), (17, (.v (.int .i64) x17)), (18, (.v (.int .i64) x18))], [(10, some ⟨TS1, 52, true, x10⟩), (16, some ⟨TS1, 52, false, x16⟩)]⟩
/-! ### plain: function 28 -/
noncomputable def plain (K : Nat) : Option (TS2.den) := callF K 28 ()
/-! ### DiffFromDelta: function 29 -/
noncomputable def DiffFromDelta (K : Nat) (x0 : TS2.den) (x1 : ByteArray) (x2 : ByteArray) : Option ((List TS0.den) × Unit) := callF K 29 (x0, x1, x2, ())
noncomputable def DiffFromDelta_l0 (K k : Nat) (x1 : ByteArray) (x6 : List TS0.den) (x8 : Int) (x9 : List Int) (x20 : List ByteArray) (x21 : Int) (x22 : Int) : Option ((List TS0.den) × Unit) := jumpF T sg (callF K) live29 k Go.Proofs.Tryd.f29 [.sl TS0 76, .v .nile] [.r, .r, .r, .l, .r, .b] ⟨[(1, (.v .str x1)), (6, (.sl 6)), (8, (.v (.int .i64) x8)), (9, (.sl 9)), (20, (.sl 20)), (21, (.v (.int .i64) x21)), (22, (.v (.int .i64) x22))], [(6, some ⟨TS0, 76, true, x6⟩), (9, some ⟨(.int .i32), 21, true, x9⟩), (20, some ⟨.str, 9, true, x20⟩)]⟩
noncomputable def DiffFromDelta_j0 (K k : Nat) (x1 : ByteArray) (x6 : List TS0.den) (x8 : Int) (x9 : List Int) (x20 : List ByteArray) (x21 : Int) (x22 : Int) : Option ((List TS0.den) × Unit) := jumpF T sg (callF K) live29 k Go.Proofs.Tryd.f29 [.sl TS0 76, .v .nile] [.r, .r, .r, .l, .r, .b, .lp, .r, .r] ⟨[(1, (.v .str x1)), (6, (.sl 6)), (8, (.v (.int .i64) x8)), (9, (.sl 9)), (20, (.sl 20)), (21, (.v (.int .i64) x21)), (22, (.v (.int .i64) x22))], [(6, some ⟨TS0, 76, true, x6⟩), (9, some ⟨(.int .i32), 21, true, x9⟩), (20, some ⟨.str, 9, true, x20⟩)]⟩
noncomputable def DiffFromDelta_j1 (K k : Nat) (x1 : ByteArray) (x6 : List TS0.den) (x8 : Int) (x9 : List Int) : Option ((List TS0.den) × Unit) := jumpF T sg (callF K) live29 k Go.Proofs.Tryd.f29 [.sl TS0 76, .v .nile] [.r, .r, .r, .r] ⟨[(1, (.v .str x1)), (6, (.sl 6)), (8, (.v (.int .i64) x8)), (9, (.sl 9))], [(6, some ⟨TS0, 76, true, x6⟩), (9, some ⟨(.int .i32), 21, true, x9⟩)]⟩
noncomputable def DiffFromDelta_j2 (K k : Nat) (x1 : ByteArray) (x6 : List TS0.den) (x8 : Int) (x9 : List Int) (x11 : ByteArray) (x20 : List ByteArray) (x21 : Int) (x22 : Int) : Option ((List TS0.den) × Unit) := jumpF T sg (callF K) live29 k Go.Proofs.Tryd.f29 [.sl TS0 76, .v .nile] [.r, .r, .r, .l, .r, .b, .lp, .r, .r, .l, .b, .r, .r] ⟨[(1, (.v .str x1)), (6, (.sl 6)), (8, (.v (.int .i64) x8)), (9, (.sl 9)), (11, (.v .str x11)), (20, (.sl 20)), (21, (.v (.int .i64) x21)), (22, (.v (.int .i64) x22))], [(6, some ⟨TS0, 76, true, x6⟩), (9, some ⟨(.int .i32), 21, true, x9⟩), (20, some ⟨.str, 9, true, x20⟩)]⟩
noncomputable def DiffFromDelta_j3 (K k : Nat) (x1 : ByteArray) (x6 : List TS0.den) (x8 : Int) (x9 : List Int) (x12 : ByteArray) (x20 : List ByteArray) (x21 : Int) (x22 : Int) : Option ((List TS0.den) × Unit) := jumpF T sg (callF K) live29 k Go.Proofs.Tryd.f29 [.sl TS0 76, .v .nile] [.r, .r, .r, .l, .r, .b, .lp, .r, .r, .l, .b, .r, .r, .r, .r, .r, .b, .r, .l, .r, .r, .r] ⟨[(1, (.v .str x1)), (6, (.sl 6)), (8, (.v (.int .i64) x8)), (9, (.sl 9)), (12, (.v .str x12)), (20, (.sl 20)), (21, (.v (.int .i64) x21)), (22, (.v (.int .i64) x22))], [(6, some ⟨TS0, 76, true, x6⟩), (9, some ⟨(.int .i32), 21, true, x9⟩), (20, some ⟨.str, 9, true, x20⟩)]⟩
noncomputable def DiffFromDelta_j4 (K k : Nat) (x1 : ByteArray) (x6 : List TS0.den) (x8 : Int) (x9 : List Int) (x11 : ByteArray) (x12 : ByteArray) (x13 : Int) (x20 : List ByteArray) (x21 : Int) (x22 : Int) (x60 : Bool) : Option ((List TS0.den) × Unit) := jumpF T sg (callF K) live29 k Go.Proofs.Tryd.f29 [.sl TS0 76, .v .nile] [.r, .r, .r, .l, .r, .b, .lp, .r, .r, .l, .b, .r, .r, .r, .r, .r, .b, .r, .r, .r] ⟨[(1, (.v .str x1)), (6, (.sl 6)), (8, (.v (.int .i64) x8)), (9, (.sl 9)), (11, (.v .str x11)), (12, (.v .str x12)), (13, (.v (.int .u8) x13)), (20, (.sl 20)), (21, (.v (.int .i64) x21)), (22, (.v (.int .i64) x22)), (60, (.v .bool x60))], [(6, some ⟨TS0, 76, true, x6⟩), (9, some ⟨(.int .i32), 21, true, x9⟩), (20, some ⟨.str, 9, true, x20⟩)]⟩
noncomputable def DiffFromDelta_j5 (K k : Nat) (x1 : ByteArray) (x6 : List TS0.den) (x8 : Int) (x9 : List Int) (x12 : ByteArray) (x20 : List ByteArray) (x21 : Int) (x22 : Int) : Option ((List TS0.den) × Unit) := jumpF T sg (callF K) live29 k Go.Proofs.Tryd.f29 [.sl TS0 76, .v .nile] [.r, .r, .r, .l, .r, .b, .lp, .r, .r, .l, .b, .r, .r, .r, .r, .r, .b, .r, .l, .r, .r, .r, .r] ⟨[(1, (.v .str x1)), (6, (.sl 6)), (8, (.v (.int .i64) x8)), (9, (.sl 9)), (12, (.v .str x12)), (20, (.sl 20)), (21, (.v (.int .i64) x21)), (22, (.v (.int .i64) x22))], [(6, some ⟨TS0, 76, true, x6⟩), (9, some ⟨(.int .i32), 21, true, x9⟩), (20, some ⟨.str, 9, true, x20⟩)]⟩
noncomputable def DiffFromDelta_j6 (K k : Nat) (x1 : ByteArray) (x6 : List TS0.den) (x8 : Int) (x9 : List Int) (x13 : Int) (x14 : Int) (x20 : List ByteArray) (x21 : Int) (x22 : Int) : Option ((List TS0.den) × Unit) := jumpF T sg (callF K) live29 k Go.Proofs.Tryd.f29 [.sl TS0 76, .v .nile] [.r, .r, .r, .l, .r, .b, .lp, .r, .r, .l, .b, .r, .r, .r, .r, .r, .b, .r, .r, .r, .l, .r, .r] ⟨[(1, (.v .str x1)), (6, (.sl 6)), (8, (.v (.int .i64) x8)), (9, (.sl 9)), (13, (.v (.int .u8) x13)), (14, (.v (.int .i64) x14)), (20, (.sl 20)), (21, (.v (.int .i64) x21)), (22, (.v (.int .i64) x22))], [(6, some ⟨TS0, 76, true, x6⟩), (9, some ⟨(.int .i32), 21, true, x9⟩), (20, some ⟨.str, 9, true, x20⟩)]⟩
noncomputable def DiffFromDelta_j7 (K k : Nat) (x1 : ByteArray) (x6 : List TS0.den) (x8 : Int) (x9 : List Int) (x13 : Int) (x14 : Int) (x20 : List ByteArray) (x21 : Int) (x22 : Int) : Option ((List TS0.den) × Unit) := jumpF T sg (callF K) live29 k Go.Proofs.Tryd.f29 [.sl TS0 76, .v .nile] [.r, .r, .r, .l, .r, .b, .lp, .r, .r, .l, .b, .r, .r, .r, .r, .r, .b, .r, .r, .r, .l, .r, .r, .r, .r] ⟨[(1, (.v .str x1)), (6, (.sl 6)), (8, (.v (.int .i64) x8)), (9, (.sl 9)), (13, (.v (.int .u8) x13)), (14, (.v (.int .i64) x14)), (20, (.sl 20)), (21, (.v (.int .i64) x21)), (22, (.v (.int .i64) x22))], [(6, some ⟨TS0, 76, true, x6⟩), (9, some ⟨(.int .i32), 21, true, x9⟩), (20, some ⟨.str, 9, true, x20⟩)]⟩
/-! ### back: function 30 -/
noncomputable def back (K : Nat) (x0 : List TS0.den) : Option (List TS1.den) := callF K 30 (x0, ())
noncomputable def back_l0 (K k : Nat) (x3 : List TS1.den) (x6 : List TS0.den) (x7 : Int) (x8 : Int) : Option (List TS1.den) := jumpF T sg (callF K) live30 k Go.Proofs.Tryd.f30 [.sl TS1 40] [.r, .r, .l, .r, .b] ⟨[(3, (.sl 3)), (6, (.sl 6)), (7, (.v (.int .i64) x7)), (8, (.v (.int .i64) x8))], [(3, some ⟨TS1, 40, true, x3⟩), (6, some ⟨TS0, 76, false, x6⟩)]⟩
noncomputable def back_j0 (K k : Nat) (x3 : List TS1.den) (x6 : List TS0.den) (x7 : Int) (x8 : Int) : Option (List TS1.den) := jumpF T sg (callF K) live30 k Go.Proofs.Tryd.f30 [.sl TS1 40] [.r, .r, .l, .r, .b, .lp, .r, .r] ⟨[(3, (.sl 3)), (6, (.sl 6)), (7, (.v (.int .i64) x7)), (8, (.v (.int .i64) x8))], [(3, some ⟨TS1, 40, true, x3⟩), (6, some ⟨TS0, 76, false, x6⟩)]⟩
/-! ### diffs: function 32 -/
noncomputable def diffs (K : Nat) (x0 : List TS1.den) : Option (List TS0.den) := callF K 32 (x0, ())
noncomputable def diffs_l0 (K k : Nat) (x3 : List TS0.den) (x6 : List TS1.den) (x7 : Int) (x8 : Int) : Option (List TS0.den) := jumpF T sg (callF K) live32 k Go.Proofs.Tryd.f32 [.sl TS0 76] [.r, .r, .l, .r, .b] ⟨[(3, (.sl 3)), (6, (.sl 6)), (7, (.v (.int .i64) x7)), (8, (.v (.int .i64) x8))], [(3, some ⟨TS0, 76, true, x3⟩), (6, some ⟨TS1, 40, false, x6⟩)]⟩
noncomputable def diffs_j0 (K k : Nat) (x3 : List TS0.den) (x6 : List TS1.den) (x7 : Int) (x8 : Int) : Option (List TS0.den) := jumpF T sg (callF K) live32 k Go.Proofs.Tryd.f32 [.sl TS0 76] [.r, .r, .l, .r, .b, .lp, .r, .r] ⟨[(3, (.sl 3)), (6, (.sl 6)), (7, (.v (.int .i64) x7)), (8, (.v (.int .i64) x8))], [(3, some ⟨TS0, 76, true, x3⟩), (6, some ⟨TS1, 40, false, x6⟩)]⟩
/-! ### deltaTokens: function 33 -/
noncomputable def deltaTokens (K : Nat) (x0 : ByteArray) : Option (List ByteArray) := callF K 33 (x0, ())
noncomputable def deltaTokens_l0 (K k : Nat) (x0 : ByteArray) (x3 : List ByteArray) (x4 : Int) (x5 : Int) : Option (List ByteArray) := jumpF T sg (callF K) live33 k Go.Proofs.Tryd.f33 [.sl .str 9] [.r, .r, .r, .l, .r, .b] ⟨[(0, (.v .str x0)), (3, (.sl 3)), (4, (.v (.int .i64) x4)), (5, (.v (.int .i64) x5))], [(3, some ⟨.str, 9, true, x3⟩)]⟩
noncomputable def deltaTokens_j0 (K k : Nat) (x0 : ByteArray) (x3 : List ByteArray) (x4 : Int) (x5 : Int) : Option (List ByteArray) := jumpF T sg (callF K) live33 k Go.Proofs.Tryd.f33 [.sl .str 9] [.r, .r, .r, .l, .r, .b, .lp, .r] ⟨[(0, (.v .str x0)), (3, (.sl 3)), (4, (.v (.int .i64) x4)), (5, (.v (.int .i64) x5))], [(3, some ⟨.str, 9, true, x3⟩)]⟩
noncomputable def deltaTokens_j1 (K k : Nat) (x0 : ByteArray) (x3 : List ByteArray) (x4 : Int) (x5 : Int) (x21 : Bool) : Option (List ByteArray) := jumpF T sg (callF K) live33 k Go.Proofs.Tryd.f33 [.sl .str 9] [.r, .r, .r, .l, .r, .b, .lp, .r, .l, .b, .r] ⟨[(0, (.v .str x0)), (3, (.sl 3)), (4, (.v (.int .i64) x4)), (5, (.v (.int .i64) x5)), (21, (.v .bool x21))], [(3, some ⟨.str, 9, true, x3⟩)]⟩
/-! ### deltaText: function 34 -/
noncomputable def deltaText (K : Nat) (x0 : ByteArray) : Option (ByteArray × Bool) := callF K 34 (x0, ())
noncomputable def deltaText_l0 (K k : Nat) (x0 : ByteArray) (x4 : List Int) (x5 : Int) : Option (ByteArray × Bool) := jumpF T sg (callF K) live34 k Go.Proofs.Tryd.f34 [.v .str, .v .bool] [.r, .r, .l, .r, .b] ⟨[(0, (.v .str x0)), (4, (.sl 4)), (5, (.v (.int .i64) x5))], [(4, some ⟨(.int .u8), 5, true, x4⟩)]⟩
noncomputable def deltaText_j0 (K k : Nat) (x0 : ByteArray) (x4 : List Int) (x5 : Int) : Option (ByteArray × Bool) := jumpF T sg (callF K) live34 k Go.Proofs.Tryd.f34 [.v .str, .v .bool] [.r, .r, .l, .r, .b, .lp, .r] ⟨[(0, (.v .str x0)), (4, (.sl 4)), (5, (.v (.int .i64) x5))], [(4, some ⟨(.int .u8), 5, true, x4⟩)]⟩
noncomputable def deltaText_j1 (K k : Nat) (x0 : ByteArray) (x4 : List Int) (x5 : Int) : Option (ByteArray × Bool) := jumpF T sg (callF K) live34 k Go.Proofs.Tryd.f34 [.v .str, .v .bool] [.r, .r, .l, .r, .b, .lp, .r, .l, .b, .r] ⟨[(0, (.v .str x0)), (4, (.sl 4)), (5, (.v (.int .i64) x5))], [(4, some ⟨(.int .u8), 5, true, x4⟩)]⟩
noncomputable def deltaText_j2 (K k : Nat) (x0 : ByteArray) (x4 : List Int) (x5 : Int) (x42 : Bool) : Option (ByteArray × Bool) := jumpF T sg (callF K) live34 k Go.Proofs.Tryd.f34 [.v .str, .v .bool] [.r, .r, .l, .r, .b, .lp, .r, .l, .b, .r, .l, .r] ⟨[(0, (.v .str x0)), (4, (.sl 4)), (5, (.v (.int .i64) x5)), (42, (.v .bool x42))], [(4, some ⟨(.int .u8), 5, true, x4⟩)]⟩
noncomputable def deltaText_j3 (K k : Nat) (x0 : ByteArray) (x4 : List Int) (x5 : Int) : Option (ByteArray × Bool) := jumpF T sg (callF K) live34 k Go.Proofs.Tryd.f34 [.v .str, .v .bool] [.r, .r, .l, .r, .b, .lp, .r, .l, .b, .r, .r] ⟨[(0, (.v .str x0)), (4, (.sl 4)), (5, (.v (.int .i64) x5))], [(4, some ⟨(.int .u8), 5, true, x4⟩)]⟩
/-! ### deltaCount: function 35 -/
noncomputable def deltaCount (K : Nat) (x0 : ByteArray) : Option (Int × Bool) := callF K 35 (x0, ())
noncomputable def deltaCount_j0 (K k : Nat) (x0 : ByteArray) (x4 : Bool) : Option (Int × Bool) := jumpF T sg (callF K) live35 k Go.Proofs.Tryd.f35 [.v (.int .i64), .v .bool] [.r, .r] ⟨[(0, (.v .str x0)), (4, (.v .bool x4))], []⟩
noncomputable def deltaCount_j1 (K k : Nat) (x0 : ByteArray) (x4 : Bool) (x25 : Bool) : Option (Int × Bool) := jumpF T sg (callF K) live35 k Go.Proofs.Tryd.f35 [.v (.int .i64), .v .bool] [.r, .r, .l, .r] ⟨[(0, (.v .str x0)), (4, (.v .bool x4)), (25, (.v .bool x25))], []⟩
noncomputable def deltaCount_j2 (K k : Nat) (x0 : ByteArray) (x4 : Bool) : Option (Int × Bool) := jumpF T sg (callF K) live35 k Go.Proofs.Tryd.f35 [.v (.int .i64), .v .bool] [.r, .r, .r] ⟨[(0, (.v .str x0)), (4, (.v .bool x4))], []⟩
noncomputable def deltaCount_j3 (K k : Nat) (x0 : ByteArray) (x4 : Bool) : Option (Int × Bool) := jumpF T sg (callF K) live35 k Go.Proofs.Tryd.f35 [.v (.int .i64), .v .bool] [.r, .r, .r, .r] ⟨[(0, (.v .str x0)), (4, (.v .bool x4))], []⟩
noncomputable def deltaCount_l0 (K k : Nat) (x0 : ByteArray) (x4 : Bool) (x5 : Int) (x31 : Int) (x32 : Int) : Option (Int × Bool) := jumpF T sg (callF K) live35 k Go.Proofs.Tryd.f35 [.v (.int .i64), .v .bool] [.r, .r, .r, .r, .r, .l, .r, .b] ⟨[(0, (.v .str x0)), (4, (.v .bool x4)), (5, (.v (.int .i64) x5)), (31, (.v (.int .i64) x31)), (32, (.v (.int .i64) x32))], []⟩
noncomputable def deltaCount_j4 (K k : Nat) (x0 : ByteArray) (x4 : Bool) (x5 : Int) (x31 : Int) (x32 : Int) : Option (Int × Bool) := jumpF T sg (callF K) live35 k Go.Proofs.Tryd.f35 [.v (.int .i64), .v .bool] [.r, .r, .r, .r, .r, .l, .r, .b, .lp, .r, .r] ⟨[(0, (.v .str x0)), (4, (.v .bool x4)), (5, (.v (.int .i64) x5)), (31, (.v (.int .i64) x31)), (32, (.v (.int .i64) x32))], []⟩
noncomputable def deltaCount_j5 (K k : Nat) (x4 : Bool) (x5 : Int) : Option (Int × Bool) := jumpF T sg (callF K) live35 k Go.Proofs.Tryd.f35 [.v (.int .i64), .v .bool] [.r, .r, .r, .r, .r, .r] ⟨[(4, (.v .bool x4)), (5, (.v (.int .i64) x5))], []⟩
noncomputable def deltaCount_j6 (K k : Nat) (x0 : ByteArray) (x4 : Bool) (x5 : Int) (x6 : Int) (x31 : Int) (x32 : Int) (x44 : Bool) : Option (Int × Bool) := jumpF T sg (callF K) live35 k Go.Proofs.Tryd.f35 [.v (.int .i64), .v .bool] [.r, .r, .r, .r, .r, .l, .r, .b, .lp, .r, .r, .l, .b, .r, .l, .r] ⟨[(0, (.v .str x0)), (4, (.v .bool x4)), (5, (.v (.int .i64) x5)), (6, (.v (.int .i64) x6)), (31, (.v (.int .i64) x31)), (32, (.v (.int .i64) x32)), (44, (.v .bool x44))], []⟩
noncomputable def deltaCount_j7 (K k : Nat) (x0 : ByteArray) (x4 : Bool) (x5 : Int) (x6 : Int) (x31 : Int) (x32 : Int) : Option (Int × Bool) := jumpF T sg (callF K) live35 k Go.Proofs.Tryd.f35 [.v (.int .i64), .v .bool] [.r, .r, .r, .r, .r, .l, .r, .b, .lp, .r, .r, .l, .b, .r, .r] ⟨[(0, (.v .str x0)), (4, (.v .bool x4)), (5, (.v (.int .i64) x5)), (6, (.v (.int .i64) x6)), (31, (.v (.int .i64) x31)), (32, (.v (.int .i64) x32))], []⟩
/-! ### DeltaEscaped: function 36 -/
noncomputable def DeltaEscaped (K : Nat) (x0 : ByteArray) : Option (ByteArray) := callF K 36 (x0, ())
noncomputable def DeltaEscaped_l0 (K k : Nat) (x0 : ByteArray) (x3 : List Int) (x6 : Int) (x7 : Int) : Option (ByteArray) := jumpF T sg (callF K) live36 k Go.Proofs.Tryd.f36 [.v .str] [.r, .r, .l, .r, .b] ⟨[(0, (.v .str x0)), (3, (.sl 3)), (6, (.v (.int .i64) x6)), (7, (.v (.int .i64) x7))], [(3, some ⟨(.int .u8), 5, true, x3⟩)]⟩
noncomputable def DeltaEscaped_j0 (K k : Nat) (x0 : ByteArray) (x3 : List Int) (x6 : Int) (x7 : Int) : Option (ByteArray) := jumpF T sg (callF K) live36 k Go.Proofs.Tryd.f36 [.v .str] [.r, .r, .l, .r, .b, .lp, .r, .r] ⟨[(0, (.v .str x0)), (3, (.sl 3)), (6, (.v (.int .i64) x6)), (7, (.v (.int .i64) x7))], [(3, some ⟨(.int .u8), 5, true, x3⟩)]⟩
/-! ### deltaNumber: function 37 -/
noncomputable def deltaNumber (K : Nat) (x0 : Int) : Option (ByteArray) := callF K 37 (x0, ())
noncomputable def deltaNumber_l0 (K k : Nat) (x0 : Int) (x3 : ByteArray) : Option (ByteArray) := jumpF T sg (callF K) live37 k Go.Proofs.Tryd.f37 [.v .str] [.r, .r, .l, .b] ⟨[(0, (.v (.int .i64) x0)), (3, (.v .str x3))], []⟩
noncomputable def deltaNumber_j0 (K k : Nat) (x0 : Int) (x3 : ByteArray) : Option (ByteArray) := jumpF T sg (callF K) live37 k Go.Proofs.Tryd.f37 [.v .str] [.r, .r, .l, .b, .lp, .r] ⟨[(0, (.v (.int .i64) x0)), (3, (.v .str x3))], []⟩
noncomputable def deltaNumber_j1 (K k : Nat) (x0 : Int) (x3 : ByteArray) : Option (ByteArray) := jumpF T sg (callF K) live37 k Go.Proofs.Tryd.f37 [.v .str] [.r, .r, .r] ⟨[(0, (.v (.int .i64) x0)), (3, (.v .str x3))], []⟩
/-! ### diffmatchpatch_New: function 40 -/
noncomputable def diffmatchpatch_New (K : Nat) : Option (TS2.den) := callF K 40 ()
/-! ### zzSplit: function 41 -/
noncomputable def zzSplit (K : Nat) (x0 : ByteArray) (x1 : ByteArray) : Option (List ByteArray) := callF K 41 (x0, x1, ())
noncomputable def zzSplit_l0 (K k : Nat) (x0 : ByteArray) (x1 : ByteArray) (x5 : List ByteArray) : Option (List ByteArray) := jumpF T sg (callF K) live41 k Go.Proofs.Tryd.f41 [.sl .str 9] [.r, .r, .r, .b] ⟨[(0, (.v .str x0)), (1, (.v .str x1)), (5, (.sl 5))], [(5, some ⟨.str, 9, true, x5⟩)]⟩
noncomputable def zzSplit_j0 (K k : Nat) (x0 : ByteArray) (x1 : ByteArray) (x5 : List ByteArray) (x8 : Int) : Option (List ByteArray) := jumpF T sg (callF K) live41 k Go.Proofs.Tryd.f41 [.sl .str 9] [.r, .r, .r, .b, .lp, .b, .r, .r] ⟨[(0, (.v .str x0)), (1, (.v .str x1)), (5, (.sl 5)), (8, (.v (.int .i64) x8))], [(5, some ⟨.str, 9, true, x5⟩)]⟩
/-! ### zzReplace: function 42 -/
noncomputable def zzReplace (K : Nat) (x0 : ByteArray) (x1 : ByteArray) (x2 : ByteArray) : Option (ByteArray) := callF K 42 (x0, x1, x2, ())
noncomputable def zzReplace_l0 (K k : Nat) (x0 : ByteArray) (x1 : ByteArray) (x2 : ByteArray) (x7 : ByteArray) : Option (ByteArray) := jumpF T sg (callF K) live42 k Go.Proofs.Tryd.f42 [.v .str] [.r, .r, .b] ⟨[(0, (.v .str x0)), (1, (.v .str x1)), (2, (.v .str x2)), (7, (.v .str x7))], []⟩
noncomputable def zzReplace_j0 (K k : Nat) (x0 : ByteArray) (x1 : ByteArray) (x2 : ByteArray) (x7 : ByteArray) (x8 : Int) : Option (ByteArray) := jumpF T sg (callF K) live42 k Go.Proofs.Tryd.f42 [.v .str] [.r, .r, .b, .lp, .b, .r, .r] ⟨[(0, (.v .str x0)), (1, (.v .str x1)), (2, (.v .str x2)), (7, (.v .str x7)), (8, (.v (.int .i64) x8))], []⟩
/-! ### zzQueryUnescape: function 43 -/
noncomputable def zzQueryUnescape (K : Nat) (x0 : ByteArray) : Option (ByteArray × Unit) := callF K 43 (x0, ())
noncomputable def zzQueryUnescape_l0 (K k : Nat) (x0 : ByteArray) (x4 : List Int) (x5 : Int) : Option (ByteArray × Unit) := jumpF T sg (callF K) live43 k Go.Proofs.Tryd.f43 [.v .str, .v .nile] [.r, .r, .l, .r, .b] ⟨[(0, (.v .str x0)), (4, (.sl 4)), (5, (.v (.int .i64) x5))], [(4, some ⟨(.int .u8), 5, true, x4⟩)]⟩
noncomputable def zzQueryUnescape_j0 (K k : Nat) (x0 : ByteArray) (x4 : List Int) (x5 : Int) : Option (ByteArray × Unit) := jumpF T sg (callF K) live43 k Go.Proofs.Tryd.f43 [.v .str, .v .nile] [.r, .r, .l, .r, .b, .lp, .r] ⟨[(0, (.v .str x0)), (4, (.sl 4)), (5, (.v (.int .i64) x5))], [(4, some ⟨(.int .u8), 5, true, x4⟩)]⟩
noncomputable def zzQueryUnescape_j1 (K k : Nat) (x0 : ByteArray) (x4 : List Int) (x5 : Int) (x43 : Bool) : Option (ByteArray × Unit) := jumpF T sg (callF K) live43 k Go.Proofs.Tryd.f43 [.v .str, .v .nile] [.r, .r, .l, .r, .b, .lp, .r, .l, .b, .r, .b, .r, .l, .l, .r] ⟨[(0, (.v .str x0)), (4, (.sl 4)), (5, (.v (.int .i64) x5)), (43, (.v .bool x43))], [(4, some ⟨(.int .u8), 5, true, x4⟩)]⟩
noncomputable def zzQueryUnescape_j2 (K k : Nat) (x0 : ByteArray) : Option (ByteArray × Unit) := jumpF T sg (callF K) live43 k Go.Proofs.Tryd.f43 [.v .str, .v .nile] [.r, .r, .l, .r, .b, .lp, .r, .l, .b, .r, .b, .r, .l, .l, .r, .l, .r, .r] ⟨[(0, (.v .str x0))], []⟩
noncomputable def zzQueryUnescape_j3 (K k : Nat) (x0 : ByteArray) (x4 : List Int) (x5 : Int) : Option (ByteArray × Unit) := jumpF T sg (callF K) live43 k Go.Proofs.Tryd.f43 [.v .str, .v .nile] [.r, .r, .l, .r, .b, .lp, .r, .l, .b, .r, .b, .r, .l, .r] ⟨[(0, (.v .str x0)), (4, (.sl 4)), (5, (.v (.int .i64) x5))], [(4, some ⟨(.int .u8), 5, true, x4⟩)]⟩
/-! ### errors_New: function 45 -/
noncomputable def errors_New (K : Nat) (x0 : ByteArray) : Option (Unit) := callF K 45 (x0, ())
/-! ### zzQueryEscape: function 49 -/
noncomputable def zzQueryEscape (K : Nat) (x0 : ByteArray) : Option (ByteArray) := callF K 49 (x0, ())
noncomputable def zzQueryEscape_l0 (K k : Nat) (x0 : ByteArray) (x3 : List Int) (x4 : Int) : Option (ByteArray) := jumpF T sg (callF K) live49 k Go.Proofs.Tryd.f49 [.v .str] [.r, .r, .l, .r, .b] ⟨[(0, (.v .str x0)), (3, (.sl 3)), (4, (.v (.int .i64) x4))], [(3, some ⟨(.int .u8), 5, true, x3⟩)]⟩
noncomputable def zzQueryEscape_j0 (K k : Nat) (x0 : ByteArray) (x3 : List Int) (x4 : Int) : Option (ByteArray) := jumpF T sg (callF K) live49 k Go.Proofs.Tryd.f49 [.v .str] [.r, .r, .l, .r, .b, .lp, .r] ⟨[(0, (.v .str x0)), (3, (.sl 3)), (4, (.v (.int .i64) x4))], [(3, some ⟨(.int .u8), 5, true, x3⟩)]⟩
noncomputable def zzQueryEscape_j1 (K k : Nat) (x0 : ByteArray) (x3 : List Int) (x4 : Int) (x5 : Int) (x24 : Bool) : Option (ByteArray) := jumpF T sg (callF K) live49 k Go.Proofs.Tryd.f49 [.v .str] [.r, .r, .l, .r, .b, .lp, .r, .l, .b, .r, .b, .r] ⟨[(0, (.v .str x0)), (3, (.sl 3)), (4, (.v (.int .i64) x4)), (5, (.v (.int .u8) x5)), (24, (.v .bool x24))], [(3, some ⟨(.int .u8), 5, true, x3⟩)]⟩
/-! ### zzUnescape: function 52 -/
noncomputable def zzUnescape (K : Nat) (x0 : ByteArray) : Option (ByteArray) := callF K 52 (x0, ())
noncomputable def zzUnescape_l0 (K k : Nat) (x0 : ByteArray) (x3 : List Int) (x4 : Int) : Option (ByteArray) := jumpF T sg (callF K) live52 k Go.Proofs.Tryd.f52 [.v .str] [.r, .r, .l, .r, .b] ⟨[(0, (.v .str x0)), (3, (.sl 3)), (4, (.v (.int .i64) x4))], [(3, some ⟨(.int .u8), 5, true, x3⟩)]⟩
noncomputable def zzUnescape_j0 (K k : Nat) (x0 : ByteArray) (x3 : List Int) (x4 : Int) : Option (ByteArray) := jumpF T sg (callF K) live52 k Go.Proofs.Tryd.f52 [.v .str] [.r, .r, .l, .r, .b, .lp, .r] ⟨[(0, (.v .str x0)), (3, (.sl 3)), (4, (.v (.int .i64) x4))], [(3, some ⟨(.int .u8), 5, true, x3⟩)]⟩
noncomputable def zzUnescape_j1 (K k : Nat) (x0 : ByteArray) (x3 : List Int) (x4 : Int) (x22 : Bool) : Option (ByteArray) := jumpF T sg (callF K) live52 k Go.Proofs.Tryd.f52 [.v .str] [.r, .r, .l, .r, .b, .lp, .r, .l, .b, .l, .r] ⟨[(0, (.v .str x0)), (3, (.sl 3)), (4, (.v (.int .i64) x4)), (22, (.v .bool x22))], [(3, some ⟨(.int .u8), 5, true, x3⟩)]⟩
noncomputable def zzUnescape_j2 (K k : Nat) (x0 : ByteArray) (x3 : List Int) (x4 : Int) : Option (ByteArray) := jumpF T sg (callF K) live52 k Go.Proofs.Tryd.f52 [.v .str] [.r, .r, .l, .r, .b, .lp, .r, .l, .b, .r] ⟨[(0, (.v .str x0)), (3, (.sl 3)), (4, (.v (.int .i64) x4))], [(3, some ⟨(.int .u8), 5, true, x3⟩)]⟩
/-! ### deltaHex: function 53 -/
noncomputable def deltaHex (K : Nat) (x0 : Int) : Option (Int) := callF K 53 (x0, ())
noncomputable def deltaHex_j0 (K k : Nat) (x0 : Int) (x3 : Bool) : Option (Int) := jumpF T sg (callF K) live53 k Go.Proofs.Tryd.f53 [.v (.int .i64)] [.r, .l, .b, .r] ⟨[(0, (.v (.int .u8) x0)), (3, (.v .bool x3))], []⟩
noncomputable def deltaHex_j1 (K k : Nat) (x0 : Int) (x13 : Bool) : Option (Int) := jumpF T sg (callF K) live53 k Go.Proofs.Tryd.f53 [.v (.int .i64)] [.r, .l, .b, .r, .r, .r] ⟨[(0, (.v (.int .u8) x0)), (13, (.v .bool x13))], []⟩
noncomputable def deltaHex_j2 (K k : Nat) (x0 : Int) (x24 : Bool) : Option (Int) := jumpF T sg (callF K) live53 k Go.Proofs.Tryd.f53 [.v (.int .i64)] [.r, .l, .b, .r, .r, .r, .r, .r] ⟨[(0, (.v (.int .u8) x0)), (24, (.v .bool x24))], []⟩
/-! ### deltaPlain: function 54 -/
noncomputable def deltaPlain (K : Nat) (x0 : Int) : Option (Bool) := callF K 54 (x0, ())
noncomputable def deltaPlain_j0 (K k : Nat) (x0 : Int) (x26 : Bool) : Option (Bool) := jumpF T sg (callF K) live54 k Go.Proofs.Tryd.f54 [.v .bool] [.r, .l, .r] ⟨[(0, (.v (.int .u8) x0)), (26, (.v .bool x26))], []⟩
noncomputable def deltaPlain_j1 (K k : Nat) (x0 : Int) : Option (Bool) := jumpF T sg (callF K) live54 k Go.Proofs.Tryd.f54 [.v .bool] [.r, .r] ⟨[(0, (.v (.int .u8) x0))], []⟩
noncomputable def deltaPlain_l0 (K k : Nat) (x0 : Int) (x28 : List Int) (x29 : Int) (x30 : Int) : Option (Bool) := jumpF T sg (callF K) live54 k Go.Proofs.Tryd.f54 [.v .bool] [.r, .r, .l, .r, .b] ⟨[(0, (.v (.int .u8) x0)), (28, (.sl 28)), (29, (.v (.int .i64) x29)), (30, (.v (.int .i64) x30))], [(28, some ⟨(.int .u8), 5, false, x28⟩)]⟩
noncomputable def deltaPlain_j2 (K k : Nat) (x0 : Int) (x28 : List Int) (x29 : Int) (x30 : Int) : Option (Bool) := jumpF T sg (callF K) live54 k Go.Proofs.Tryd.f54 [.v .bool] [.r, .r, .l, .r, .b, .lp, .r, .r] ⟨[(0, (.v (.int .u8) x0)), (28, (.sl 28)), (29, (.v (.int .i64) x29)), (30, (.v (.int .i64) x30))], [(28, some ⟨(.int .u8), 5, false, x28⟩)]⟩
/-! ### zzEscapeHTML: function 55 -/
noncomputable def zzEscapeHTML (K : Nat) (x0 : ByteArray) : Option (ByteArray) := callF K 55 (x0, ())
noncomputable def zzEscapeHTML_l0 (K k : Nat) (x0 : ByteArray) (x3 : List Int) (x4 : Int) : Option (ByteArray) := jumpF T sg (callF K) live55 k Go.Proofs.Tryd.f55 [.v .str] [.r, .r, .l, .r, .b] ⟨[(0, (.v .str x0)), (3, (.sl 3)), (4, (.v (.int .i64) x4))], [(3, some ⟨(.int .u8), 5, true, x3⟩)]⟩
noncomputable def zzEscapeHTML_j0 (K k : Nat) (x0 : ByteArray) (x3 : List Int) (x4 : Int) : Option (ByteArray) := jumpF T sg (callF K) live55 k Go.Proofs.Tryd.f55 [.v .str] [.r, .r, .l, .r, .b, .lp, .r] ⟨[(0, (.v .str x0)), (3, (.sl 3)), (4, (.v (.int .i64) x4))], [(3, some ⟨(.int .u8), 5, true, x3⟩)]⟩
/-! ### zzIndex: function 56 -/
noncomputable def zzIndex (K : Nat) (x0 : ByteArray) (x1 : ByteArray) : Option (Int) := callF K 56 (x0, x1, ())
noncomputable def zzIndex_l0 (K k : Nat) (x0 : ByteArray) (x1 : ByteArray) (x5 : Int) : Option (Int) := jumpF T sg (callF K) live56 k Go.Proofs.Tryd.f56 [.v (.int .i64)] [.r, .l, .r, .b] ⟨[(0, (.v .str x0)), (1, (.v .str x1)), (5, (.v (.int .i64) x5))], []⟩
noncomputable def zzIndex_j0 (K k : Nat) (x0 : ByteArray) (x1 : ByteArray) (x5 : Int) : Option (Int) := jumpF T sg (callF K) live56 k Go.Proofs.Tryd.f56 [.v (.int .i64)] [.r, .l, .r, .b, .lp, .r] ⟨[(0, (.v .str x0)), (1, (.v .str x1)), (5, (.v (.int .i64) x5))], []⟩
/-! ### zzDigit: function 57 -/
noncomputable def zzDigit (K : Nat) (x0 : Int) : Option (Int) := callF K 57 (x0, ())
noncomputable def zzDigit_j0 (K k : Nat) (x0 : Int) (x3 : Bool) : Option (Int) := jumpF T sg (callF K) live57 k Go.Proofs.Tryd.f57 [.v (.int .u8)] [.r, .l, .b, .r] ⟨[(0, (.v (.int .u8) x0)), (3, (.v .bool x3))], []⟩
noncomputable def zzDigit_j1 (K k : Nat) (x0 : Int) (x12 : Bool) : Option (Int) := jumpF T sg (callF K) live57 k Go.Proofs.Tryd.f57 [.v (.int .u8)] [.r, .l, .b, .r, .r, .r] ⟨[(0, (.v (.int .u8) x0)), (12, (.v .bool x12))], []⟩
noncomputable def zzDigit_j2 (K k : Nat) (x0 : Int) (x22 : Bool) : Option (Int) := jumpF T sg (callF K) live57 k Go.Proofs.Tryd.f57 [.v (.int .u8)] [.r, .l, .b, .r, .r, .r, .r, .r] ⟨[(0, (.v (.int .u8) x0)), (22, (.v .bool x22))], []⟩
/-! ### zzUnescaped: function 64 -/
noncomputable def zzUnescaped (K : Nat) (x0 : ByteArray) : Option (Int) := callF K 64 (x0, ())
end
end Go.Proofs.YtfefjbifdbfmjaaDoor.E
