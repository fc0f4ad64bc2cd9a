import Derived.Test.YtaabfadjemmibaaDoorEv3
import Derived.Test.YtaabfadjemmibaaDoorProg
import Derived.Lib.RuneCount
/- Written by a program of this session (wip/tools/mkev.py): the table of the functions that are evaluated, and names for their places. Not trusted: Lean checks it. -/
namespace Go.Proofs.YtaabfadjemmibaaDoor.E
open Go.Ev
noncomputable section
@[reducible] def TS0 : Ty := (.pair (.int .i64) (.one .str))
@[reducible] def TS1 : Ty := (.pair (.int .i64) (.pair (.int .i64) (.pair (.int .i64) (.pair .flt (.pair (.int .i64) (.pair (.int .i64) (.one .flt)))))))
@[reducible] def TS2 : Ty := (.pair (.int .i8) (.one .str))
noncomputable def T : Tab where
  ty n := match n with
    | 2 => some (.int .i64)
    | 3 => some (.int .i64)
    | 4 => some .bool
    | 5 => some (.int .u8)
    | 9 => some .str
    | 21 => some (.int .i32)
    | 26 => some TS0
    | 34 => some TS0
    | 52 => some .flt
    | 54 => some TS1
    | 57 => some (.int .i8)
    | 59 => some TS2
    | _ => none
  sl n := match n with
    | 22 => some (TS0, 26)
    | 28 => some (TS0, 34)
    | 31 => some (.str, 9)
    | 38 => some ((.int .i64), 2)
    | 44 => some (TS2, 59)
    | 50 => some ((.int .i32), 21)
    | 68 => some ((.int .i64), 3)
    | _ => none
  eq n := match n with
    | 26 => true
    | 34 => true
    | _ => false
  lt := ltI
  le := leI
  eqI := Go.Ev.eqI
  nle := nleI
  eqS := Go.Ev.eqS
  i2f := i2fI
  f2iOk := f2iOkI
  f2i := f2iI
  fo := foI
  faOk := faOkI
  fa := faI
def sg (f : FuncId) : Sig := match f with
  | 5 => ⟨[.v .str, .v .str, .v .str, .v .bool], [.v .bool]⟩
  | 6 => ⟨[.read TS0 26], [.v .bool]⟩
  | 7 => ⟨[.read TS0 26], [.v .bool]⟩
  | 8 => ⟨[.read TS0 26], [.v .bool]⟩
  | 9 => ⟨[.read TS0 26], [.v .bool]⟩
  | 10 => ⟨[.read TS0 26], [.v .bool]⟩
  | 13 => ⟨[.read TS0 26], [.v .bool]⟩
  | 14 => ⟨[.read TS0 26], [.v .bool]⟩
  | 15 => ⟨[.v .str, .v .str, .v .str, .v .bool], [.v .bool]⟩
  | 16 => ⟨[.read TS0 26], [.v .bool]⟩
  | 17 => ⟨[.read TS0 26], [.v .bool]⟩
  | 18 => ⟨[], [.v .bool]⟩
  | 19 => ⟨[.read TS0 34, .read TS0 34], [.v .bool]⟩
  | 20 => ⟨[.read TS0 26], [.sl TS0 34]⟩
  | 21 => ⟨[.read TS0 26], [.sl TS0 26]⟩
  | 22 => ⟨[.read TS0 26], [.sl TS0 26]⟩
  | 23 => ⟨[.read TS0 34, .read TS0 34], [.v .bool]⟩
  | 24 => ⟨[.read TS0 34, .read TS0 34], [.v .bool]⟩
  | 25 => ⟨[.v .str], [.v .bool]⟩
  | 26 => ⟨[.read TS0 26], [.v .bool]⟩
  | 27 => ⟨[.read TS0 26], [.sl TS0 26]⟩
  | 28 => ⟨[.read TS0 34], [.v .bool]⟩
  | 29 => ⟨[.read TS0 34], [.v (.int .i64), .v (.int .i64)]⟩
  | 31 => ⟨[.read TS0 26], [.sl TS0 26]⟩
  | 32 => ⟨[.v TS0], [.v .bool]⟩
  | 33 => ⟨[.read TS0 34, .v (.int .i64), .v (.int .i64), .v .bool], [.v .bool]⟩
  | 34 => ⟨[.read TS2 59], [.sl TS0 26]⟩
  | 35 => ⟨[], [.pt TS1 54]⟩
  | 36 => ⟨[.pt TS1 54, .own TS2 59], [.sl TS2 59]⟩
  | 37 => ⟨[.read TS0 26], [.sl TS2 59]⟩
  | 38 => ⟨[.read TS0 34, .v (.int .i64)], [.v .str]⟩
  | 39 => ⟨[.pt TS1 54, .own TS2 59], [.sl TS2 59]⟩
  | 40 => ⟨[.v .str, .v .str], [.v .bool]⟩
  | 41 => ⟨[.v .str, .v .str], [.v .bool]⟩
  | 43 => ⟨[.pt TS1 54, .own TS2 59], [.sl TS2 59]⟩
  | 44 => ⟨[.v .str, .v (.int .i64)], [.v .bool]⟩
  | 45 => ⟨[], [.pt TS1 54]⟩
  | 46 => ⟨[.pt TS1 54, .v .str, .v .str], [.v (.int .i64)]⟩
  | 47 => ⟨[.v .str, .v .str], [.v (.int .i64)]⟩
  | 48 => ⟨[.v .str], [.v (.int .i32), .v (.int .i64)]⟩
  | 49 => ⟨[.own TS2 59, .v (.int .i64), .v (.int .i64), .read TS2 59], [.sl TS2 59]⟩
  | 50 => ⟨[.read (.int .i32) 21, .read (.int .i32) 21], [.v (.int .i64)]⟩
  | 51 => ⟨[.read (.int .i32) 21, .read (.int .i32) 21], [.v (.int .i64)]⟩
  | 52 => ⟨[.v .str, .v .str], [.v .bool]⟩
  | 53 => ⟨[.v .str, .v .str], [.v .bool]⟩
  | 54 => ⟨[.v .str], [.v (.int .i64)]⟩
  | 55 => ⟨[.v .flt, .v .flt], [.v .flt]⟩
  | 56 => ⟨[.pt TS1 54, .v .str, .v .str], [.v (.int .i64)]⟩
  | 57 => ⟨[.v .str], [.v (.int .i32), .v (.int .i64)]⟩
  | 58 => ⟨[.v (.int .i32)], [.v .bool]⟩
  | 59 => ⟨[.v (.int .i32)], [.v .bool]⟩
  | 60 => ⟨[.v (.int .i32)], [.v .bool]⟩
  | 61 => ⟨[.v .str], [.v .bool]⟩
  | 62 => ⟨[.v .str], [.v (.int .i32), .v (.int .i64)]⟩
  | 63 => ⟨[.v .str, .v .str], [.v .bool]⟩
  | 64 => ⟨[.v .str, .v .str], [.v .bool]⟩
  | 67 => ⟨[.v .flt, .v .flt], [.v .flt]⟩
  | 68 => ⟨[.v .str, .v .str], [.v (.int .i64)]⟩
  | 69 => ⟨[.v (.int .u8)], [.v .bool]⟩
  | _ => ⟨[], []⟩
noncomputable def fnOf (f : FuncId) : Option Func := match f with
  | 5 => some Go.Proofs.Tryd.f5
  | 6 => some Go.Proofs.Tryd.f6
  | 7 => some Go.Proofs.Tryd.f7
  | 8 => some Go.Proofs.Tryd.f8
  | 9 => some Go.Proofs.Tryd.f9
  | 10 => some Go.Proofs.Tryd.f10
  | 13 => some Go.Proofs.Tryd.f13
  | 14 => some Go.Proofs.Tryd.f14
  | 15 => some Go.Proofs.Tryd.f15
  | 16 => some Go.Proofs.Tryd.f16
  | 17 => some Go.Proofs.Tryd.f17
  | 18 => some Go.Proofs.Tryd.f18
  | 19 => some Go.Proofs.Tryd.f19
  | 20 => some Go.Proofs.Tryd.f20
  | 21 => some Go.Proofs.Tryd.f21
  | 22 => some Go.Proofs.Tryd.f22
  | 23 => some Go.Proofs.Tryd.f23
  | 24 => some Go.Proofs.Tryd.f24
  | 25 => some Go.Proofs.Tryd.f25
  | 26 => some Go.Proofs.Tryd.f26
  | 27 => some Go.Proofs.Tryd.f27
  | 28 => some Go.Proofs.Tryd.f28
  | 29 => some Go.Proofs.Tryd.f29
  | 31 => some Go.Proofs.Tryd.f31
  | 32 => some Go.Proofs.Tryd.f32
  | 33 => some Go.Proofs.Tryd.f33
  | 34 => some Go.Proofs.Tryd.f34
  | 35 => some Go.Proofs.Tryd.f35
  | 36 => some Go.Proofs.Tryd.f36
  | 37 => some Go.Proofs.Tryd.f37
  | 38 => some Go.Proofs.Tryd.f38
  | 39 => some Go.Proofs.Tryd.f39
  | 40 => some Go.Proofs.Tryd.f40
  | 41 => some Go.Proofs.Tryd.f41
  | 43 => some Go.Proofs.Tryd.f43
  | 44 => some Go.Proofs.Tryd.f44
  | 45 => some Go.Proofs.Tryd.f45
  | 46 => some Go.Proofs.Tryd.f46
  | 47 => some Go.Proofs.Tryd.f47
  | 48 => some Go.Proofs.Tryd.f48
  | 49 => some Go.Proofs.Tryd.f49
  | 50 => some Go.Proofs.Tryd.f50
  | 51 => some Go.Proofs.Tryd.f51
  | 52 => some Go.Proofs.Tryd.f52
  | 53 => some Go.Proofs.Tryd.f53
  | 56 => some Go.Proofs.Tryd.f56
  | 57 => some Go.Proofs.Tryd.f57
  | 58 => some Go.Proofs.Tryd.f58
  | 59 => some Go.Proofs.Tryd.f59
  | 60 => some Go.Proofs.Tryd.f60
  | 61 => some Go.Proofs.Tryd.f61
  | 62 => some Go.Proofs.Tryd.f62
  | 63 => some Go.Proofs.Tryd.f63
  | 64 => some Go.Proofs.Tryd.f64
  | 68 => some Go.Proofs.Tryd.f68
  | 69 => some Go.Proofs.Tryd.f69
  | _ => none
def live5 (n : Nat) : Option (List Nat) := match n with
  | 2 => some [0, 1, 2, 3, 26]
  | 3 => some [0, 1, 2, 3]
  | 5 => some [0, 1, 2, 3, 30, 31, 32]
  | 9 => some [0, 1, 2, 3]
  | 10 => some [0, 1, 2, 3, 58]
  | 11 => some [0, 1, 2, 3]
  | 14 => some [0, 1, 2, 11]
  | 10004 => some [0, 1, 2, 3, 30, 31, 32]
  | _ => none
def live6 (n : Nat) : Option (List Nat) := match n with
  | 3 => some [0]
  | 5 => some [0]
  | _ => none
def live7 (n : Nat) : Option (List Nat) := match n with
  | 3 => some [0]
  | 5 => some [0]
  | 8 => some [3, 17, 18, 19]
  | 12 => some [3]
  | 10007 => some [3, 17, 18, 19]
  | _ => none
def live8 (n : Nat) : Option (List Nat) := match n with
  | 3 => some [0]
  | 5 => some [0]
  | _ => none
def live9 (n : Nat) : Option (List Nat) := match n with
  | 3 => some [0]
  | 5 => some [0]
  | _ => none
def live10 (n : Nat) : Option (List Nat) := match n with
  | 3 => some [0]
  | 5 => some [0]
  | 8 => some [0, 3, 4]
  | 10 => some [0, 3, 4, 5]
  | 11 => some [0, 3, 4, 5]
  | 13 => some [0, 3, 4, 5, 36, 37, 38]
  | 16 => some [0, 3, 4, 5, 7, 36, 37, 38, 45, 46, 47]
  | 21 => some [0, 3, 5]
  | 24 => some [0, 3]
  | 10007 => some [0, 3, 4]
  | 10009 => some [0, 3, 4, 5]
  | 10012 => some [0, 3, 4, 5, 36, 37, 38]
  | 10015 => some [0, 3, 4, 5, 7, 36, 37, 38, 45, 46, 47]
  | _ => none
def live13 (n : Nat) : Option (List Nat) := match n with
  | 3 => some [0]
  | 5 => some [0]
  | _ => none
def live14 (n : Nat) : Option (List Nat) := match n with
  | 3 => some [0]
  | 5 => some [0]
  | _ => none
def live15 (n : Nat) : Option (List Nat) := match n with
  | 2 => some [0, 1, 2, 3, 24]
  | 3 => some [0, 1, 2, 3]
  | 6 => some [9]
  | 8 => some [9]
  | _ => none
def live16 (n : Nat) : Option (List Nat) := match n with
  | 3 => some [0]
  | 5 => some [8, 9, 10]
  | 10004 => some [8, 9, 10]
  | _ => none
def live17 (n : Nat) : Option (List Nat) := match n with
  | _ => none
def live18 (n : Nat) : Option (List Nat) := match n with
  | _ => none
def live19 (n : Nat) : Option (List Nat) := match n with
  | 3 => some [0, 1]
  | 5 => some [0, 1, 12, 13]
  | 10004 => some [0, 1, 12, 13]
  | _ => none
def live20 (n : Nat) : Option (List Nat) := match n with
  | 4 => some [3, 6, 7, 8]
  | 10003 => some [3, 6, 7, 8]
  | _ => none
def live21 (n : Nat) : Option (List Nat) := match n with
  | _ => none
def live22 (n : Nat) : Option (List Nat) := match n with
  | _ => none
def live23 (n : Nat) : Option (List Nat) := match n with
  | _ => none
def live24 (n : Nat) : Option (List Nat) := match n with
  | 4 => some [1, 5, 8, 9, 10]
  | 7 => some [1, 5, 7, 8, 9, 10]
  | 8 => some [1, 5, 7, 8, 9, 10]
  | 9 => some [1, 5, 8, 9, 10, 56]
  | 13 => some [1, 5]
  | 14 => some [1, 5]
  | 10003 => some [1, 5, 8, 9, 10]
  | 10006 => some [1, 5, 7, 8, 9, 10]
  | 10012 => some [1, 5]
  | _ => none
def live25 (n : Nat) : Option (List Nat) := match n with
  | 4 => some [0, 3]
  | 5 => some [0, 3, 23]
  | 6 => some [0]
  | 10002 => some [0, 3]
  | _ => none
def live26 (n : Nat) : Option (List Nat) := match n with
  | _ => none
def live27 (n : Nat) : Option (List Nat) := match n with
  | _ => none
def live28 (n : Nat) : Option (List Nat) := match n with
  | 3 => some [0, 8, 9, 10]
  | 6 => some [0, 3, 4, 8, 9, 10]
  | 7 => some [0, 3, 4, 8, 9, 10]
  | 9 => some [0, 3, 4, 5, 8, 9, 10, 39]
  | 10 => some [0, 3, 4, 5, 8, 9, 10]
  | 11 => some [0, 3, 4, 5, 8, 9, 10, 47]
  | 13 => some [0, 3, 4, 5, 8, 9, 10, 75]
  | 14 => some [0, 3, 4, 5, 8, 9, 10]
  | 15 => some [0, 8, 9, 10, 114]
  | 10002 => some [0, 8, 9, 10]
  | _ => none
def live29 (n : Nat) : Option (List Nat) := match n with
  | 4 => some [4, 5, 8, 9, 10]
  | 10003 => some [4, 5, 8, 9, 10]
  | _ => none
def live31 (n : Nat) : Option (List Nat) := match n with
  | _ => none
def live32 (n : Nat) : Option (List Nat) := match n with
  | _ => none
def live33 (n : Nat) : Option (List Nat) := match n with
  | 3 => some [0, 2, 3]
  | 5 => some [2, 3, 16, 17, 18]
  | 7 => some [2, 3, 10, 16, 17, 18, 41]
  | 8 => some [2, 3, 10, 16, 17, 18]
  | 11 => some [2, 3, 10, 11, 16, 17, 18]
  | 10004 => some [2, 3, 16, 17, 18]
  | 10009 => some [2, 3, 10, 11, 16, 17, 18]
  | _ => none
def live34 (n : Nat) : Option (List Nat) := match n with
  | 4 => some [3, 6, 7, 8]
  | 10003 => some [3, 6, 7, 8]
  | _ => none
def live35 (n : Nat) : Option (List Nat) := match n with
  | _ => none
def live36 (n : Nat) : Option (List Nat) := match n with
  | 3 => some [0, 1, 5]
  | 4 => some [0, 1, 5, 38]
  | 13 => some [0, 1, 5, 6, 7, 8]
  | 18 => some [0, 1, 5, 6, 7, 8, 11, 12, 13, 14]
  | 20 => some [0, 1, 5, 6, 7, 8, 11, 12, 13, 14, 16]
  | 29 => some [0, 1, 5, 11, 12, 13]
  | 34 => some [0, 1, 5, 12, 13]
  | 10002 => some [0, 1, 5]
  | 10017 => some [0, 1, 5, 6, 7, 8, 11, 12, 13, 14]
  | _ => none
def live37 (n : Nat) : Option (List Nat) := match n with
  | 4 => some [3, 6, 7, 8]
  | 10003 => some [3, 6, 7, 8]
  | _ => none
def live38 (n : Nat) : Option (List Nat) := match n with
  | 4 => some [1, 5, 8, 9, 10]
  | 10003 => some [1, 5, 8, 9, 10]
  | _ => none
def live39 (n : Nat) : Option (List Nat) := match n with
  | 9 => some [0, 1, 5, 6, 7, 9, 10]
  | 21 => some [0, 1, 5, 6, 7, 9, 10, 67]
  | 25 => some [0, 1, 5, 6, 7, 8, 9, 10, 11, 88]
  | 30 => some [0, 1, 5, 6, 7, 9, 10]
  | 37 => some [0, 1, 5, 6, 7, 9, 10]
  | 42 => some [0, 1, 5, 6, 7]
  | 45 => some [0, 1, 5, 7]
  | 48 => some [0, 1, 5, 220]
  | 55 => some [0, 1]
  | 57 => some [0, 1]
  | 60 => some [0, 1, 5, 14]
  | 61 => some [0, 1, 5, 14, 279]
  | 72 => some [0, 1, 14]
  | 10008 => some [0, 1, 5, 6, 7, 9, 10]
  | 10059 => some [0, 1, 5, 14]
  | _ => none
def live40 (n : Nat) : Option (List Nat) := match n with
  | _ => none
def live41 (n : Nat) : Option (List Nat) := match n with
  | _ => none
def live43 (n : Nat) : Option (List Nat) := match n with
  | 8 => some [0, 1, 5, 6, 7, 8, 9, 10, 11, 12]
  | 18 => some [0, 1, 5, 6, 7, 8, 9, 10, 11, 12]
  | 21 => some [0, 1, 5, 6, 7, 8, 9, 10, 11, 12, 93]
  | 27 => some [0, 1, 6]
  | 37 => some [0, 1, 5]
  | 39 => some [0, 1]
  | 42 => some [0, 1, 8]
  | 43 => some [0, 1, 8, 160]
  | 49 => some [0, 1, 8, 16, 17, 18, 198]
  | 54 => some [0, 1, 8, 16, 17, 19, 243]
  | 10007 => some [0, 1, 5, 6, 7, 8, 9, 10, 11, 12]
  | 10041 => some [0, 1, 8]
  | _ => none
def live44 (n : Nat) : Option (List Nat) := match n with
  | _ => none
def live45 (n : Nat) : Option (List Nat) := match n with
  | _ => none
def live46 (n : Nat) : Option (List Nat) := match n with
  | _ => none
def live47 (n : Nat) : Option (List Nat) := match n with
  | 2 => some [0, 1, 24]
  | 3 => some [0, 1]
  | 8 => some [0, 1, 5, 7, 9, 10, 11]
  | 9 => some [0, 1, 5, 7, 9, 10, 11, 12]
  | 10 => some [0, 1, 7, 9, 10, 11, 12, 13]
  | 11 => some [0, 1, 9, 10, 11, 12, 13, 14]
  | 12 => some [1, 9, 10, 11, 12, 13, 14, 15]
  | 13 => some [9, 10, 11, 12, 13, 14, 15, 16]
  | 14 => some [9, 10, 11, 12, 13, 14, 72]
  | 16 => some [9, 10, 11, 12, 76]
  | 18 => some [9, 10, 11, 12, 84]
  | 20 => some [9, 10, 88]
  | 22 => some [92]
  | _ => none
def live48 (n : Nat) : Option (List Nat) := match n with
  | 2 => some [0, 10]
  | _ => none
def live49 (n : Nat) : Option (List Nat) := match n with
  | 4 => some [0, 1, 2, 3]
  | 11 => some [0, 9, 10, 55, 56]
  | 15 => some [0, 1, 2, 3]
  | 17 => some [0, 1, 2, 3, 12]
  | 18 => some [0, 1, 2, 3]
  | 10010 => some [0, 9, 10, 55, 56]
  | 10016 => some [0, 1, 2, 3, 12]
  | _ => none
def live50 (n : Nat) : Option (List Nat) := match n with
  | 4 => some [0, 1, 5]
  | 10002 => some [0, 1, 5]
  | _ => none
def live51 (n : Nat) : Option (List Nat) := match n with
  | 8 => some [0, 1, 5, 6, 7, 34]
  | 10005 => some [0, 1, 5, 6, 7]
  | _ => none
def live52 (n : Nat) : Option (List Nat) := match n with
  | _ => none
def live53 (n : Nat) : Option (List Nat) := match n with
  | _ => none
def live56 (n : Nat) : Option (List Nat) := match n with
  | 4 => some [1, 2, 7, 8, 23]
  | 5 => some [1, 2, 7, 8]
  | 9 => some [1, 2, 7, 8]
  | 12 => some [1, 2, 9]
  | 17 => some [1, 2, 9, 10, 11, 13]
  | 19 => some [1, 2, 9, 10, 11, 73]
  | 10014 => some [1, 2, 9, 10, 11]
  | _ => none
def live57 (n : Nat) : Option (List Nat) := match n with
  | 4 => some [0, 4]
  | 8 => some [0, 4, 5]
  | 12 => some [0, 4, 5, 6]
  | 13 => some [0, 4, 5]
  | 15 => some [0, 4, 5]
  | 10010 => some [0, 4, 5, 6]
  | _ => none
def live58 (n : Nat) : Option (List Nat) := match n with
  | _ => none
def live59 (n : Nat) : Option (List Nat) := match n with
  | _ => none
def live60 (n : Nat) : Option (List Nat) := match n with
  | _ => none
def live61 (n : Nat) : Option (List Nat) := match n with
  | 3 => some [0, 3, 14]
  | 4 => some [0, 3]
  | _ => none
def live62 (n : Nat) : Option (List Nat) := match n with
  | 4 => some [0, 4]
  | 9 => some [0, 4, 5, 6]
  | 13 => some [0, 5, 8, 9]
  | 15 => some [0, 5, 8, 10, 57]
  | 16 => some [0, 5, 8, 10]
  | 18 => some [0, 5, 8, 10]
  | 20 => some [0, 5, 8, 10, 11, 75]
  | 21 => some [0, 5, 8, 10, 11]
  | 23 => some [0, 5, 10, 11]
  | 25 => some [5, 10, 11, 12, 98]
  | 26 => some [5, 10, 11, 12]
  | _ => none
def live63 (n : Nat) : Option (List Nat) := match n with
  | _ => none
def live64 (n : Nat) : Option (List Nat) := match n with
  | _ => none
def live68 (n : Nat) : Option (List Nat) := match n with
  | 4 => some [0, 1, 5]
  | 10002 => some [0, 1, 5]
  | _ => none
def live69 (n : Nat) : Option (List Nat) := match n with
  | _ => none
def liveOf (f : FuncId) : Nat → Option (List Nat) := match f with
  | 5 => live5
  | 6 => live6
  | 7 => live7
  | 8 => live8
  | 9 => live9
  | 10 => live10
  | 13 => live13
  | 14 => live14
  | 15 => live15
  | 16 => live16
  | 17 => live17
  | 18 => live18
  | 19 => live19
  | 20 => live20
  | 21 => live21
  | 22 => live22
  | 23 => live23
  | 24 => live24
  | 25 => live25
  | 26 => live26
  | 27 => live27
  | 28 => live28
  | 29 => live29
  | 31 => live31
  | 32 => live32
  | 33 => live33
  | 34 => live34
  | 35 => live35
  | 36 => live36
  | 37 => live37
  | 38 => live38
  | 39 => live39
  | 40 => live40
  | 41 => live41
  | 43 => live43
  | 44 => live44
  | 45 => live45
  | 46 => live46
  | 47 => live47
  | 48 => live48
  | 49 => live49
  | 50 => live50
  | 51 => live51
  | 52 => live52
  | 53 => live53
  | 56 => live56
  | 57 => live57
  | 58 => live58
  | 59 => live59
  | 60 => live60
  | 61 => live61
  | 62 => live62
  | 63 => live63
  | 64 => live64
  | 68 => live68
  | 69 => live69
  | _ => fun _ => none
def runeCountE (s : ByteArray) : Option Int := if s.size < 9223372036854775807 then some (Go.Lib.runeCount s : Int) else none
def fpick (neg : Bool) (win : Ordering) (x y : Nat) : Nat :=
  if FloatKind.f64.decode x == .infinity neg || FloatKind.f64.decode y == .infinity neg then FloatKind.f64.encode (.infinity neg)
  else if (FloatKind.f64.decode x).isNaN || (FloatKind.f64.decode y).isNaN then 0x7FF8000000000001
  else if (FloatKind.f64.decode x).isZero && (FloatKind.f64.decode y).isZero then (if (FloatKind.f64.decode x).neg == neg then x else y)
  else if (FloatKind.f64.decode x).order (FloatKind.f64.decode y) == some win then x else y
def extG (f : FuncId) : argL (sg f).ps → Option (retL (sg f).rs) := match f with
  | 54 => fun x => runeCountE x.1
  | 55 => fun x => some (fpick false .gt x.1 x.2.1)
  | 67 => fun x => some (fpick true .lt x.1 x.2.1)
  | _ => fun _ => none
def isExt (f : FuncId) : Bool := Nat.beq f 54 || Nat.beq f 55 || Nat.beq f 67
def extF (f : FuncId) : argL (sg f).ps → Option (retL (sg f).rs) := cond (isExt f) (extG f) (fun _ => none)
noncomputable def callFT (T : Tab) : Nat → (f : FuncId) → argL (sg f).ps → Option (retL (sg f).rs)
  | 0, _, _ => none
  | k + 1, f, xs => match fnOf f with
    | some fn => evalF T sg (callFT T k) (liveOf f) k fn (sg f) xs
    | none => extF f xs
noncomputable abbrev callF : Nat → (f : FuncId) → argL (sg f).ps → Option (retL (sg f).rs) := callFT T
/-- The table with comparisons that compute. -/
noncomputable def Tc : Tab where
  ty := T.ty
  sl := T.sl
  eq := T.eq
  lt := fun x y => decide (x < y)
  le := fun x y => decide (x ≤ y)
  eqI := fun x y => decide (x = y)
  nle := fun x y => Nat.ble x y
  eqS := fun x y => x.data.toList == y.data.toList
  i2f := i2fI
  f2iOk := f2iOkI
  f2i := f2iI
  fo := foI
  faOk := faOkI
  fa := faI
noncomputable def RuneCountInString (K : Nat) (x0 : ByteArray) : Option (Int) := callF K 54 (x0, ())
noncomputable def Max (K : Nat) (x0 : Nat) (x1 : Nat) : Option (Nat) := callF K 55 (x0, x1, ())
noncomputable def Min (K : Nat) (x0 : Nat) (x1 : Nat) : Option (Nat) := callF K 67 (x0, x1, ())
/-! ### FnLosslessWord: function 5 -/
noncomputable def FnLosslessWord (K : Nat) (x0 : ByteArray) (x1 : ByteArray) (x2 : ByteArray) (x3 : Bool) : Option (Bool) := callF K 5 (x0, x1, x2, x3, ())
noncomputable def FnLosslessWord_j0 (K k : Nat) (x0 : ByteArray) (x1 : ByteArray) (x2 : ByteArray) (x3 : Bool) (x26 : Bool) : Option (Bool) := jumpF T sg (callF K) live5 k Go.Proofs.Tryd.f5 [.v .bool] [.r, .l, .r] ⟨[(0, (.v .str x0)), (1, (.v .str x1)), (2, (.v .str x2)), (3, (.v .bool x3)), (26, (.v .bool x26))], []⟩
noncomputable def FnLosslessWord_j1 (K k : Nat) (x0 : ByteArray) (x1 : ByteArray) (x2 : ByteArray) (x3 : Bool) : Option (Bool) := jumpF T sg (callF K) live5 k Go.Proofs.Tryd.f5 [.v .bool] [.r, .r] ⟨[(0, (.v .str x0)), (1, (.v .str x1)), (2, (.v .str x2)), (3, (.v .bool x3))], []⟩
noncomputable def FnLosslessWord_l0 (K k : Nat) (x0 : ByteArray) (x1 : ByteArray) (x2 : ByteArray) (x3 : Bool) (x30 : List ByteArray) (x31 : Int) (x32 : Int) : Option (Bool) := jumpF T sg (callF K) live5 k Go.Proofs.Tryd.f5 [.v .bool] [.r, .r, .l, .r, .b] ⟨[(0, (.v .str x0)), (1, (.v .str x1)), (2, (.v .str x2)), (3, (.v .bool x3)), (30, (.sl 30)), (31, (.v (.int .i64) x31)), (32, (.v (.int .i64) x32))], [(30, some ⟨.str, 9, true, x30⟩)]⟩
noncomputable def FnLosslessWord_j2 (K k : Nat) (x0 : ByteArray) (x1 : ByteArray) (x2 : ByteArray) (x3 : Bool) (x30 : List ByteArray) (x31 : Int) (x32 : Int) : Option (Bool) := jumpF T sg (callF K) live5 k Go.Proofs.Tryd.f5 [.v .bool] [.r, .r, .l, .r, .b, .lp, .r, .r] ⟨[(0, (.v .str x0)), (1, (.v .str x1)), (2, (.v .str x2)), (3, (.v .bool x3)), (30, (.sl 30)), (31, (.v (.int .i64) x31)), (32, (.v (.int .i64) x32))], [(30, some ⟨.str, 9, true, x30⟩)]⟩
noncomputable def FnLosslessWord_j3 (K k : Nat) (x0 : ByteArray) (x1 : ByteArray) (x2 : ByteArray) (x3 : Bool) : Option (Bool) := jumpF T sg (callF K) live5 k Go.Proofs.Tryd.f5 [.v .bool] [.r, .r, .r] ⟨[(0, (.v .str x0)), (1, (.v .str x1)), (2, (.v .str x2)), (3, (.v .bool x3))], []⟩
noncomputable def FnLosslessWord_j4 (K k : Nat) (x0 : ByteArray) (x1 : ByteArray) (x2 : ByteArray) (x3 : Bool) (x58 : Bool) : Option (Bool) := jumpF T sg (callF K) live5 k Go.Proofs.Tryd.f5 [.v .bool] [.r, .r, .r, .l, .r] ⟨[(0, (.v .str x0)), (1, (.v .str x1)), (2, (.v .str x2)), (3, (.v .bool x3)), (58, (.v .bool x58))], []⟩
noncomputable def FnLosslessWord_j5 (K k : Nat) (x0 : ByteArray) (x1 : ByteArray) (x2 : ByteArray) (x3 : Bool) : Option (Bool) := jumpF T sg (callF K) live5 k Go.Proofs.Tryd.f5 [.v .bool] [.r, .r, .r, .r] ⟨[(0, (.v .str x0)), (1, (.v .str x1)), (2, (.v .str x2)), (3, (.v .bool x3))], []⟩
noncomputable def FnLosslessWord_j6 (K k : Nat) (x0 : ByteArray) (x1 : ByteArray) (x2 : ByteArray) (x11 : Int) : Option (Bool) := jumpF T sg (callF K) live5 k Go.Proofs.Tryd.f5 [.v .bool] [.r, .r, .r, .r, .r, .r] ⟨[(0, (.v .str x0)), (1, (.v .str x1)), (2, (.v .str x2)), (11, (.v (.int .i64) x11))], []⟩
/-! ### FnMergeAgain: function 6 -/
noncomputable def FnMergeAgain (K : Nat) (x0 : List TS0.den) : Option (Bool) := callF K 6 (x0, ())
noncomputable def FnMergeAgain_j0 (K k : Nat) (x0 : List TS0.den) : Option (Bool) := jumpF T sg (callF K) live6 k Go.Proofs.Tryd.f6 [.v .bool] [.r, .r] ⟨[(0, (.sl 0))], [(0, some ⟨TS0, 26, false, x0⟩)]⟩
noncomputable def FnMergeAgain_j1 (K k : Nat) (x0 : List TS0.den) : Option (Bool) := jumpF T sg (callF K) live6 k Go.Proofs.Tryd.f6 [.v .bool] [.r, .r, .r] ⟨[(0, (.sl 0))], [(0, some ⟨TS0, 26, false, x0⟩)]⟩
/-! ### FnMergeForm: function 7 -/
noncomputable def FnMergeForm (K : Nat) (x0 : List TS0.den) : Option (Bool) := callF K 7 (x0, ())
noncomputable def FnMergeForm_j0 (K k : Nat) (x0 : List TS0.den) : Option (Bool) := jumpF T sg (callF K) live7 k Go.Proofs.Tryd.f7 [.v .bool] [.r, .r] ⟨[(0, (.sl 0))], [(0, some ⟨TS0, 26, false, x0⟩)]⟩
noncomputable def FnMergeForm_j1 (K k : Nat) (x0 : List TS0.den) : Option (Bool) := jumpF T sg (callF K) live7 k Go.Proofs.Tryd.f7 [.v .bool] [.r, .r, .r] ⟨[(0, (.sl 0))], [(0, some ⟨TS0, 26, false, x0⟩)]⟩
noncomputable def FnMergeForm_l0 (K k : Nat) (x3 : List TS0.den) (x18 : Int) (x19 : Int) : Option (Bool) := jumpF T sg (callF K) live7 k Go.Proofs.Tryd.f7 [.v .bool] [.r, .r, .r, .r, .l, .r, .b] ⟨[(3, (.sl 3)), (17, (.sl 3)), (18, (.v (.int .i64) x18)), (19, (.v (.int .i64) x19))], [(3, some ⟨TS0, 34, true, x3⟩)]⟩
noncomputable def FnMergeForm_j2 (K k : Nat) (x3 : List TS0.den) (x18 : Int) (x19 : Int) : Option (Bool) := jumpF T sg (callF K) live7 k Go.Proofs.Tryd.f7 [.v .bool] [.r, .r, .r, .r, .l, .r, .b, .lp, .r, .r] ⟨[(3, (.sl 3)), (17, (.sl 3)), (18, (.v (.int .i64) x18)), (19, (.v (.int .i64) x19))], [(3, some ⟨TS0, 34, true, x3⟩)]⟩
noncomputable def FnMergeForm_j3 (K k : Nat) (x3 : List TS0.den) : Option (Bool) := jumpF T sg (callF K) live7 k Go.Proofs.Tryd.f7 [.v .bool] [.r, .r, .r, .r, .r] ⟨[(3, (.sl 3))], [(3, some ⟨TS0, 34, true, x3⟩)]⟩
/-! ### FnMergeKeeps: function 8 -/
noncomputable def FnMergeKeeps (K : Nat) (x0 : List TS0.den) : Option (Bool) := callF K 8 (x0, ())
noncomputable def FnMergeKeeps_j0 (K k : Nat) (x0 : List TS0.den) : Option (Bool) := jumpF T sg (callF K) live8 k Go.Proofs.Tryd.f8 [.v .bool] [.r, .r] ⟨[(0, (.sl 0))], [(0, some ⟨TS0, 26, false, x0⟩)]⟩
noncomputable def FnMergeKeeps_j1 (K k : Nat) (x0 : List TS0.den) : Option (Bool) := jumpF T sg (callF K) live8 k Go.Proofs.Tryd.f8 [.v .bool] [.r, .r, .r] ⟨[(0, (.sl 0))], [(0, some ⟨TS0, 26, false, x0⟩)]⟩
/-! ### FnMergeLess: function 9 -/
noncomputable def FnMergeLess (K : Nat) (x0 : List TS0.den) : Option (Bool) := callF K 9 (x0, ())
noncomputable def FnMergeLess_j0 (K k : Nat) (x0 : List TS0.den) : Option (Bool) := jumpF T sg (callF K) live9 k Go.Proofs.Tryd.f9 [.v .bool] [.r, .r] ⟨[(0, (.sl 0))], [(0, some ⟨TS0, 26, false, x0⟩)]⟩
noncomputable def FnMergeLess_j1 (K k : Nat) (x0 : List TS0.den) : Option (Bool) := jumpF T sg (callF K) live9 k Go.Proofs.Tryd.f9 [.v .bool] [.r, .r, .r] ⟨[(0, (.sl 0))], [(0, some ⟨TS0, 26, false, x0⟩)]⟩
/-! ### FnMergeOrder: function 10 -/
noncomputable def FnMergeOrder (K : Nat) (x0 : List TS0.den) : Option (Bool) := callF K 10 (x0, ())
noncomputable def FnMergeOrder_j0 (K k : Nat) (x0 : List TS0.den) : Option (Bool) := jumpF T sg (callF K) live10 k Go.Proofs.Tryd.f10 [.v .bool] [.r, .r] ⟨[(0, (.sl 0))], [(0, some ⟨TS0, 26, false, x0⟩)]⟩
noncomputable def FnMergeOrder_j1 (K k : Nat) (x0 : List TS0.den) : Option (Bool) := jumpF T sg (callF K) live10 k Go.Proofs.Tryd.f10 [.v .bool] [.r, .r, .r] ⟨[(0, (.sl 0))], [(0, some ⟨TS0, 26, false, x0⟩)]⟩
noncomputable def FnMergeOrder_l0 (K k : Nat) (x0 : List TS0.den) (x3 : List TS0.den) (x4 : Int) : Option (Bool) := jumpF T sg (callF K) live10 k Go.Proofs.Tryd.f10 [.v .bool] [.r, .r, .r, .r, .l, .r, .b] ⟨[(0, (.sl 0)), (3, (.sl 3)), (4, (.v (.int .i64) x4))], [(0, some ⟨TS0, 26, false, x0⟩), (3, some ⟨TS0, 26, true, x3⟩)]⟩
noncomputable def FnMergeOrder_j2 (K k : Nat) (x0 : List TS0.den) (x3 : List TS0.den) (x4 : Int) : Option (Bool) := jumpF T sg (callF K) live10 k Go.Proofs.Tryd.f10 [.v .bool] [.r, .r, .r, .r, .l, .r, .b, .lp, .r] ⟨[(0, (.sl 0)), (3, (.sl 3)), (4, (.v (.int .i64) x4))], [(0, some ⟨TS0, 26, false, x0⟩), (3, some ⟨TS0, 26, true, x3⟩)]⟩
noncomputable def FnMergeOrder_j3 (K k : Nat) (x0 : List TS0.den) (x3 : List TS0.den) : Option (Bool) := jumpF T sg (callF K) live10 k Go.Proofs.Tryd.f10 [.v .bool] [.r, .r, .r, .r, .r] ⟨[(0, (.sl 0)), (3, (.sl 3))], [(0, some ⟨TS0, 26, false, x0⟩), (3, some ⟨TS0, 26, true, x3⟩)]⟩
noncomputable def FnMergeOrder_l1 (K k : Nat) (x0 : List TS0.den) (x3 : List TS0.den) (x4 : Int) (x5 : Int) : Option (Bool) := jumpF T sg (callF K) live10 k Go.Proofs.Tryd.f10 [.v .bool] [.r, .r, .r, .r, .l, .r, .b, .lp, .r, .b, .r, .l, .b] ⟨[(0, (.sl 0)), (3, (.sl 3)), (4, (.v (.int .i64) x4)), (5, (.v (.int .i64) x5))], [(0, some ⟨TS0, 26, false, x0⟩), (3, some ⟨TS0, 26, true, x3⟩)]⟩
noncomputable def FnMergeOrder_j4 (K k : Nat) (x0 : List TS0.den) (x3 : List TS0.den) (x4 : Int) (x5 : Int) : Option (Bool) := jumpF T sg (callF K) live10 k Go.Proofs.Tryd.f10 [.v .bool] [.r, .r, .r, .r, .l, .r, .b, .lp, .r, .b, .r, .l, .b, .lp, .r] ⟨[(0, (.sl 0)), (3, (.sl 3)), (4, (.v (.int .i64) x4)), (5, (.v (.int .i64) x5))], [(0, some ⟨TS0, 26, false, x0⟩), (3, some ⟨TS0, 26, true, x3⟩)]⟩
noncomputable def FnMergeOrder_j5 (K k : Nat) (x0 : List TS0.den) (x3 : List TS0.den) (x4 : Int) (x5 : Int) : Option (Bool) := jumpF T sg (callF K) live10 k Go.Proofs.Tryd.f10 [.v .bool] [.r, .r, .r, .r, .l, .r, .b, .lp, .r, .b, .r, .r] ⟨[(0, (.sl 0)), (3, (.sl 3)), (4, (.v (.int .i64) x4)), (5, (.v (.int .i64) x5))], [(0, some ⟨TS0, 26, false, x0⟩), (3, some ⟨TS0, 26, true, x3⟩)]⟩
noncomputable def FnMergeOrder_l2 (K k : Nat) (x0 : List TS0.den) (x3 : List TS0.den) (x4 : Int) (x5 : Int) (x36 : List Int) (x37 : Int) (x38 : Int) : Option (Bool) := jumpF T sg (callF K) live10 k Go.Proofs.Tryd.f10 [.v .bool] [.r, .r, .r, .r, .l, .r, .b, .lp, .r, .b, .r, .r, .l, .r, .b] ⟨[(0, (.sl 0)), (3, (.sl 3)), (4, (.v (.int .i64) x4)), (5, (.v (.int .i64) x5)), (36, (.sl 36)), (37, (.v (.int .i64) x37)), (38, (.v (.int .i64) x38))], [(0, some ⟨TS0, 26, false, x0⟩), (3, some ⟨TS0, 26, true, x3⟩), (36, some ⟨(.int .i64), 2, true, x36⟩)]⟩
noncomputable def FnMergeOrder_j6 (K k : Nat) (x0 : List TS0.den) (x3 : List TS0.den) (x4 : Int) (x5 : Int) (x36 : List Int) (x37 : Int) (x38 : Int) : Option (Bool) := jumpF T sg (callF K) live10 k Go.Proofs.Tryd.f10 [.v .bool] [.r, .r, .r, .r, .l, .r, .b, .lp, .r, .b, .r, .r, .l, .r, .b, .lp, .r, .r] ⟨[(0, (.sl 0)), (3, (.sl 3)), (4, (.v (.int .i64) x4)), (5, (.v (.int .i64) x5)), (36, (.sl 36)), (37, (.v (.int .i64) x37)), (38, (.v (.int .i64) x38))], [(0, some ⟨TS0, 26, false, x0⟩), (3, some ⟨TS0, 26, true, x3⟩), (36, some ⟨(.int .i64), 2, true, x36⟩)]⟩
noncomputable def FnMergeOrder_j7 (K k : Nat) (x0 : List TS0.den) (x3 : List TS0.den) (x5 : Int) : Option (Bool) := jumpF T sg (callF K) live10 k Go.Proofs.Tryd.f10 [.v .bool] [.r, .r, .r, .r, .l, .r, .b, .lp, .r, .b, .r, .r, .r] ⟨[(0, (.sl 0)), (3, (.sl 3)), (5, (.v (.int .i64) x5))], [(0, some ⟨TS0, 26, false, x0⟩), (3, some ⟨TS0, 26, true, x3⟩)]⟩
noncomputable def FnMergeOrder_l3 (K k : Nat) (x0 : List TS0.den) (x3 : List TS0.den) (x4 : Int) (x5 : Int) (x7 : Int) (x36 : List Int) (x37 : Int) (x38 : Int) (a45 : Int) (b45 : Int) (x46 : Int) (x47 : Int) : Option (Bool) := jumpF T sg (callF K) live10 k Go.Proofs.Tryd.f10 [.v .bool] [.r, .r, .r, .r, .l, .r, .b, .lp, .r, .b, .r, .r, .l, .r, .b, .lp, .r, .r, .l, .b, .r, .r, .b] ⟨[(0, (.sl 0)), (3, (.sl 3)), (4, (.v (.int .i64) x4)), (5, (.v (.int .i64) x5)), (7, (.v (.int .i64) x7)), (36, (.sl 36)), (37, (.v (.int .i64) x37)), (38, (.v (.int .i64) x38)), (45, (.cut 0 false a45 b45)), (46, (.v (.int .i64) x46)), (47, (.v (.int .i64) x47))], [(0, some ⟨TS0, 26, false, x0⟩), (3, some ⟨TS0, 26, true, x3⟩), (36, some ⟨(.int .i64), 2, true, x36⟩)]⟩
noncomputable def FnMergeOrder_j8 (K k : Nat) (x0 : List TS0.den) (x3 : List TS0.den) (x4 : Int) (x5 : Int) (x7 : Int) (x36 : List Int) (x37 : Int) (x38 : Int) (a45 : Int) (b45 : Int) (x46 : Int) (x47 : Int) : Option (Bool) := jumpF T sg (callF K) live10 k Go.Proofs.Tryd.f10 [.v .bool] [.r, .r, .r, .r, .l, .r, .b, .lp, .r, .b, .r, .r, .l, .r, .b, .lp, .r, .r, .l, .b, .r, .r, .b, .lp, .r, .r] ⟨[(0, (.sl 0)), (3, (.sl 3)), (4, (.v (.int .i64) x4)), (5, (.v (.int .i64) x5)), (7, (.v (.int .i64) x7)), (36, (.sl 36)), (37, (.v (.int .i64) x37)), (38, (.v (.int .i64) x38)), (45, (.cut 0 false a45 b45)), (46, (.v (.int .i64) x46)), (47, (.v (.int .i64) x47))], [(0, some ⟨TS0, 26, false, x0⟩), (3, some ⟨TS0, 26, true, x3⟩), (36, some ⟨(.int .i64), 2, true, x36⟩)]⟩
/-! ### FnSemanticKeeps: function 13 -/
noncomputable def FnSemanticKeeps (K : Nat) (x0 : List TS0.den) : Option (Bool) := callF K 13 (x0, ())
noncomputable def FnSemanticKeeps_j0 (K k : Nat) (x0 : List TS0.den) : Option (Bool) := jumpF T sg (callF K) live13 k Go.Proofs.Tryd.f13 [.v .bool] [.r, .r] ⟨[(0, (.sl 0))], [(0, some ⟨TS0, 26, false, x0⟩)]⟩
noncomputable def FnSemanticKeeps_j1 (K k : Nat) (x0 : List TS0.den) : Option (Bool) := jumpF T sg (callF K) live13 k Go.Proofs.Tryd.f13 [.v .bool] [.r, .r, .r] ⟨[(0, (.sl 0))], [(0, some ⟨TS0, 26, false, x0⟩)]⟩
/-! ### FnSemanticFewer: function 14 -/
noncomputable def FnSemanticFewer (K : Nat) (x0 : List TS0.den) : Option (Bool) := callF K 14 (x0, ())
noncomputable def FnSemanticFewer_j0 (K k : Nat) (x0 : List TS0.den) : Option (Bool) := jumpF T sg (callF K) live14 k Go.Proofs.Tryd.f14 [.v .bool] [.r, .r] ⟨[(0, (.sl 0))], [(0, some ⟨TS0, 26, false, x0⟩)]⟩
noncomputable def FnSemanticFewer_j1 (K k : Nat) (x0 : List TS0.den) : Option (Bool) := jumpF T sg (callF K) live14 k Go.Proofs.Tryd.f14 [.v .bool] [.r, .r, .r] ⟨[(0, (.sl 0))], [(0, some ⟨TS0, 26, false, x0⟩)]⟩
/-! ### FnSemanticOne: function 15 -/
noncomputable def FnSemanticOne (K : Nat) (x0 : ByteArray) (x1 : ByteArray) (x2 : ByteArray) (x3 : Bool) : Option (Bool) := callF K 15 (x0, x1, x2, x3, ())
noncomputable def FnSemanticOne_j0 (K k : Nat) (x0 : ByteArray) (x1 : ByteArray) (x2 : ByteArray) (x3 : Bool) (x24 : Bool) : Option (Bool) := jumpF T sg (callF K) live15 k Go.Proofs.Tryd.f15 [.v .bool] [.r, .l, .r] ⟨[(0, (.v .str x0)), (1, (.v .str x1)), (2, (.v .str x2)), (3, (.v .bool x3)), (24, (.v .bool x24))], []⟩
noncomputable def FnSemanticOne_j1 (K k : Nat) (x0 : ByteArray) (x1 : ByteArray) (x2 : ByteArray) (x3 : Bool) : Option (Bool) := jumpF T sg (callF K) live15 k Go.Proofs.Tryd.f15 [.v .bool] [.r, .r] ⟨[(0, (.v .str x0)), (1, (.v .str x1)), (2, (.v .str x2)), (3, (.v .bool x3))], []⟩
noncomputable def FnSemanticOne_j2 (K k : Nat) (x9 : List TS0.den) : Option (Bool) := jumpF T sg (callF K) live15 k Go.Proofs.Tryd.f15 [.v .bool] [.r, .r, .r, .r] ⟨[(9, (.sl 9))], [(9, some ⟨TS0, 26, true, x9⟩)]⟩
noncomputable def FnSemanticOne_j3 (K k : Nat) (x9 : List TS0.den) : Option (Bool) := jumpF T sg (callF K) live15 k Go.Proofs.Tryd.f15 [.v .bool] [.r, .r, .r, .r, .r] ⟨[(9, (.sl 9))], [(9, some ⟨TS0, 26, true, x9⟩)]⟩
/-! ### zzFits3: function 16 -/
noncomputable def zzFits3 (K : Nat) (x0 : List TS0.den) : Option (Bool) := callF K 16 (x0, ())
noncomputable def zzFits3_j0 (K k : Nat) (x0 : List TS0.den) : Option (Bool) := jumpF T sg (callF K) live16 k Go.Proofs.Tryd.f16 [.v .bool] [.r, .r] ⟨[(0, (.sl 0))], [(0, some ⟨TS0, 26, false, x0⟩)]⟩
noncomputable def zzFits3_l0 (K k : Nat) (x8 : List TS0.den) (x9 : Int) (x10 : Int) : Option (Bool) := jumpF T sg (callF K) live16 k Go.Proofs.Tryd.f16 [.v .bool] [.r, .r, .l, .r, .b] ⟨[(8, (.sl 8)), (9, (.v (.int .i64) x9)), (10, (.v (.int .i64) x10))], [(8, some ⟨TS0, 26, false, x8⟩)]⟩
noncomputable def zzFits3_j1 (K k : Nat) (x8 : List TS0.den) (x9 : Int) (x10 : Int) : Option (Bool) := jumpF T sg (callF K) live16 k Go.Proofs.Tryd.f16 [.v .bool] [.r, .r, .l, .r, .b, .lp, .r, .r] ⟨[(8, (.sl 8)), (9, (.v (.int .i64) x9)), (10, (.v (.int .i64) x10))], [(8, some ⟨TS0, 26, false, x8⟩)]⟩
/-! ### cleanASCII: function 17 -/
noncomputable def cleanASCII (K : Nat) (x0 : List TS0.den) : Option (Bool) := callF K 17 (x0, ())
/-! ### cleanAwake: function 18 -/
noncomputable def cleanAwake (K : Nat) : Option (Bool) := callF K 18 ()
/-! ### CleanSame: function 19 -/
noncomputable def CleanSame (K : Nat) (x0 : List TS0.den) (x1 : List TS0.den) : Option (Bool) := callF K 19 (x0, x1, ())
noncomputable def CleanSame_j0 (K k : Nat) (x0 : List TS0.den) (x1 : List TS0.den) : Option (Bool) := jumpF T sg (callF K) live19 k Go.Proofs.Tryd.f19 [.v .bool] [.r, .r] ⟨[(0, (.sl 0)), (1, (.sl 1))], [(0, some ⟨TS0, 34, false, x0⟩), (1, some ⟨TS0, 34, false, x1⟩)]⟩
noncomputable def CleanSame_l0 (K k : Nat) (x0 : List TS0.den) (x1 : List TS0.den) (x12 : Int) (x13 : Int) : Option (Bool) := jumpF T sg (callF K) live19 k Go.Proofs.Tryd.f19 [.v .bool] [.r, .r, .l, .r, .b] ⟨[(0, (.sl 0)), (1, (.sl 1)), (12, (.v (.int .i64) x12)), (13, (.v (.int .i64) x13))], [(0, some ⟨TS0, 34, false, x0⟩), (1, some ⟨TS0, 34, false, x1⟩)]⟩
noncomputable def CleanSame_j1 (K k : Nat) (x0 : List TS0.den) (x1 : List TS0.den) (x12 : Int) (x13 : Int) : Option (Bool) := jumpF T sg (callF K) live19 k Go.Proofs.Tryd.f19 [.v .bool] [.r, .r, .l, .r, .b, .lp, .r, .r] ⟨[(0, (.sl 0)), (1, (.sl 1)), (12, (.v (.int .i64) x12)), (13, (.v (.int .i64) x13))], [(0, some ⟨TS0, 34, false, x0⟩), (1, some ⟨TS0, 34, false, x1⟩)]⟩
/-! ### cleanOf: function 20 -/
noncomputable def cleanOf (K : Nat) (x0 : List TS0.den) : Option (List TS0.den) := callF K 20 (x0, ())
noncomputable def cleanOf_l0 (K k : Nat) (x3 : List TS0.den) (x6 : List TS0.den) (x7 : Int) (x8 : Int) : Option (List TS0.den) := jumpF T sg (callF K) live20 k Go.Proofs.Tryd.f20 [.sl TS0 34] [.r, .r, .l, .r, .b] ⟨[(3, (.sl 3)), (6, (.sl 6)), (7, (.v (.int .i64) x7)), (8, (.v (.int .i64) x8))], [(3, some ⟨TS0, 34, true, x3⟩), (6, some ⟨TS0, 26, false, x6⟩)]⟩
noncomputable def cleanOf_j0 (K k : Nat) (x3 : List TS0.den) (x6 : List TS0.den) (x7 : Int) (x8 : Int) : Option (List TS0.den) := jumpF T sg (callF K) live20 k Go.Proofs.Tryd.f20 [.sl TS0 34] [.r, .r, .l, .r, .b, .lp, .r, .r] ⟨[(3, (.sl 3)), (6, (.sl 6)), (7, (.v (.int .i64) x7)), (8, (.v (.int .i64) x8))], [(3, some ⟨TS0, 34, true, x3⟩), (6, some ⟨TS0, 26, false, x6⟩)]⟩
/-! ### CleanLossless: function 21 -/
noncomputable def CleanLossless (K : Nat) (x0 : List TS0.den) : Option (List TS0.den) := callF K 21 (x0, ())
/-! ### cleanOwn: function 22 -/
noncomputable def cleanOwn (K : Nat) (x0 : List TS0.den) : Option (List TS0.den) := callF K 22 (x0, ())
/-! ### CleanKept: function 23 -/
noncomputable def CleanKept (K : Nat) (x0 : List TS0.den) (x1 : List TS0.den) : Option (Bool) := callF K 23 (x0, x1, ())
/-! ### CleanShifted: function 24 -/
noncomputable def CleanShifted (K : Nat) (x0 : List TS0.den) (x1 : List TS0.den) : Option (Bool) := callF K 24 (x0, x1, ())
noncomputable def CleanShifted_l0 (K k : Nat) (x1 : List TS0.den) (x5 : Int) (x8 : List TS0.den) (x9 : Int) (x10 : Int) : Option (Bool) := jumpF T sg (callF K) live24 k Go.Proofs.Tryd.f24 [.v .bool] [.r, .r, .l, .r, .b] ⟨[(1, (.sl 1)), (5, (.v (.int .i64) x5)), (8, (.sl 8)), (9, (.v (.int .i64) x9)), (10, (.v (.int .i64) x10))], [(1, some ⟨TS0, 34, false, x1⟩), (8, some ⟨TS0, 34, false, x8⟩)]⟩
noncomputable def CleanShifted_j0 (K k : Nat) (x1 : List TS0.den) (x5 : Int) (x8 : List TS0.den) (x9 : Int) (x10 : Int) : Option (Bool) := jumpF T sg (callF K) live24 k Go.Proofs.Tryd.f24 [.v .bool] [.r, .r, .l, .r, .b, .lp, .r, .r] ⟨[(1, (.sl 1)), (5, (.v (.int .i64) x5)), (8, (.sl 8)), (9, (.v (.int .i64) x9)), (10, (.v (.int .i64) x10))], [(1, some ⟨TS0, 34, false, x1⟩), (8, some ⟨TS0, 34, false, x8⟩)]⟩
noncomputable def CleanShifted_l1 (K k : Nat) (x1 : List TS0.den) (x5 : Int) : Option (Bool) := jumpF T sg (callF K) live24 k Go.Proofs.Tryd.f24 [.v .bool] [.r, .r, .r, .l, .b] ⟨[(1, (.sl 1)), (5, (.v (.int .i64) x5))], [(1, some ⟨TS0, 34, false, x1⟩)]⟩
noncomputable def CleanShifted_l2 (K k : Nat) (x1 : List TS0.den) (x5 : Int) (i7 : Int) (x7 : List TS0.den) (x8 : List TS0.den) (x9 : Int) (x10 : Int) : Option (Bool) := jumpF T sg (callF K) live24 k Go.Proofs.Tryd.f24 [.v .bool] [.r, .r, .l, .r, .b, .lp, .r, .r, .l, .b, .r, .r, .l, .b] ⟨[(1, (.sl 1)), (5, (.v (.int .i64) x5)), (7, (.ptr 7 i7)), (8, (.sl 8)), (9, (.v (.int .i64) x9)), (10, (.v (.int .i64) x10))], [(1, some ⟨TS0, 34, false, x1⟩), (7, some ⟨TS0, 34, true, x7⟩), (8, some ⟨TS0, 34, false, x8⟩)]⟩
noncomputable def CleanShifted_j1 (K k : Nat) (x1 : List TS0.den) (x5 : Int) : Option (Bool) := jumpF T sg (callF K) live24 k Go.Proofs.Tryd.f24 [.v .bool] [.r, .r, .r, .l, .b, .lp, .r] ⟨[(1, (.sl 1)), (5, (.v (.int .i64) x5))], [(1, some ⟨TS0, 34, false, x1⟩)]⟩
noncomputable def CleanShifted_j2 (K k : Nat) (x1 : List TS0.den) (x5 : Int) : Option (Bool) := jumpF T sg (callF K) live24 k Go.Proofs.Tryd.f24 [.v .bool] [.r, .r, .r, .r] ⟨[(1, (.sl 1)), (5, (.v (.int .i64) x5))], [(1, some ⟨TS0, 34, false, x1⟩)]⟩
noncomputable def CleanShifted_j3 (K k : Nat) (x1 : List TS0.den) (x5 : Int) (i7 : Int) (x7 : List TS0.den) (x8 : List TS0.den) (x9 : Int) (x10 : Int) : Option (Bool) := jumpF T sg (callF K) live24 k Go.Proofs.Tryd.f24 [.v .bool] [.r, .r, .l, .r, .b, .lp, .r, .r, .l, .b, .r, .r, .l, .b, .lp, .r] ⟨[(1, (.sl 1)), (5, (.v (.int .i64) x5)), (7, (.ptr 7 i7)), (8, (.sl 8)), (9, (.v (.int .i64) x9)), (10, (.v (.int .i64) x10))], [(1, some ⟨TS0, 34, false, x1⟩), (7, some ⟨TS0, 34, true, x7⟩), (8, some ⟨TS0, 34, false, x8⟩)]⟩
noncomputable def CleanShifted_j4 (K k : Nat) (x1 : List TS0.den) (x5 : Int) (i7 : Int) (x7 : List TS0.den) (x8 : List TS0.den) (x9 : Int) (x10 : Int) : Option (Bool) := jumpF T sg (callF K) live24 k Go.Proofs.Tryd.f24 [.v .bool] [.r, .r, .l, .r, .b, .lp, .r, .r, .l, .b, .r, .r, .r] ⟨[(1, (.sl 1)), (5, (.v (.int .i64) x5)), (7, (.ptr 7 i7)), (8, (.sl 8)), (9, (.v (.int .i64) x9)), (10, (.v (.int .i64) x10))], [(1, some ⟨TS0, 34, false, x1⟩), (7, some ⟨TS0, 34, true, x7⟩), (8, some ⟨TS0, 34, false, x8⟩)]⟩
noncomputable def CleanShifted_j5 (K k : Nat) (x1 : List TS0.den) (x5 : Int) (x8 : List TS0.den) (x9 : Int) (x10 : Int) (x56 : Bool) : Option (Bool) := jumpF T sg (callF K) live24 k Go.Proofs.Tryd.f24 [.v .bool] [.r, .r, .l, .r, .b, .lp, .r, .r, .l, .b, .r, .r, .r, .l, .r] ⟨[(1, (.sl 1)), (5, (.v (.int .i64) x5)), (8, (.sl 8)), (9, (.v (.int .i64) x9)), (10, (.v (.int .i64) x10)), (56, (.v .bool x56))], [(1, some ⟨TS0, 34, false, x1⟩), (8, some ⟨TS0, 34, false, x8⟩)]⟩
/-! ### cleanWord: function 25 -/
noncomputable def cleanWord (K : Nat) (x0 : ByteArray) : Option (Bool) := callF K 25 (x0, ())
noncomputable def cleanWord_l0 (K k : Nat) (x0 : ByteArray) (x3 : Int) : Option (Bool) := jumpF T sg (callF K) live25 k Go.Proofs.Tryd.f25 [.v .bool] [.r, .l, .r, .b] ⟨[(0, (.v .str x0)), (3, (.v (.int .i64) x3))], []⟩
noncomputable def cleanWord_j0 (K k : Nat) (x0 : ByteArray) (x3 : Int) : Option (Bool) := jumpF T sg (callF K) live25 k Go.Proofs.Tryd.f25 [.v .bool] [.r, .l, .r, .b, .lp, .r] ⟨[(0, (.v .str x0)), (3, (.v (.int .i64) x3))], []⟩
noncomputable def cleanWord_j1 (K k : Nat) (x0 : ByteArray) : Option (Bool) := jumpF T sg (callF K) live25 k Go.Proofs.Tryd.f25 [.v .bool] [.r, .r] ⟨[(0, (.v .str x0))], []⟩
noncomputable def cleanWord_j2 (K k : Nat) (x0 : ByteArray) (x3 : Int) (x23 : Bool) : Option (Bool) := jumpF T sg (callF K) live25 k Go.Proofs.Tryd.f25 [.v .bool] [.r, .l, .r, .b, .lp, .r, .l, .b, .r] ⟨[(0, (.v .str x0)), (3, (.v (.int .i64) x3)), (23, (.v .bool x23))], []⟩
/-! ### cleanFew: function 26 -/
noncomputable def cleanFew (K : Nat) (x0 : List TS0.den) : Option (Bool) := callF K 26 (x0, ())
/-! ### CleanMerge: function 27 -/
noncomputable def CleanMerge (K : Nat) (x0 : List TS0.den) : Option (List TS0.den) := callF K 27 (x0, ())
/-! ### CleanMerged: function 28 -/
noncomputable def CleanMerged (K : Nat) (x0 : List TS0.den) : Option (Bool) := callF K 28 (x0, ())
noncomputable def CleanMerged_l0 (K k : Nat) (x0 : List TS0.den) (x9 : Int) (x10 : Int) : Option (Bool) := jumpF T sg (callF K) live28 k Go.Proofs.Tryd.f28 [.v .bool] [.r, .l, .r, .b] ⟨[(0, (.sl 0)), (8, (.sl 0)), (9, (.v (.int .i64) x9)), (10, (.v (.int .i64) x10))], [(0, some ⟨TS0, 34, false, x0⟩)]⟩
noncomputable def CleanMerged_j0 (K k : Nat) (x0 : List TS0.den) (x9 : Int) (x10 : Int) : Option (Bool) := jumpF T sg (callF K) live28 k Go.Proofs.Tryd.f28 [.v .bool] [.r, .l, .r, .b, .lp, .r, .r] ⟨[(0, (.sl 0)), (8, (.sl 0)), (9, (.v (.int .i64) x9)), (10, (.v (.int .i64) x10))], [(0, some ⟨TS0, 34, false, x0⟩)]⟩
noncomputable def CleanMerged_j1 (K k : Nat) (x0 : List TS0.den) (x3 : Int) (i4 : Int) (x4 : List TS0.den) (x9 : Int) (x10 : Int) : Option (Bool) := jumpF T sg (callF K) live28 k Go.Proofs.Tryd.f28 [.v .bool] [.r, .l, .r, .b, .lp, .r, .r, .l, .b, .r, .r] ⟨[(0, (.sl 0)), (3, (.v (.int .i64) x3)), (4, (.ptr 4 i4)), (8, (.sl 0)), (9, (.v (.int .i64) x9)), (10, (.v (.int .i64) x10))], [(0, some ⟨TS0, 34, false, x0⟩), (4, some ⟨TS0, 34, true, x4⟩)]⟩
noncomputable def CleanMerged_j2 (K k : Nat) (x0 : List TS0.den) (x3 : Int) (i4 : Int) (x4 : List TS0.den) (x9 : Int) (x10 : Int) : Option (Bool) := jumpF T sg (callF K) live28 k Go.Proofs.Tryd.f28 [.v .bool] [.r, .l, .r, .b, .lp, .r, .r, .l, .b, .r, .r, .r] ⟨[(0, (.sl 0)), (3, (.v (.int .i64) x3)), (4, (.ptr 4 i4)), (8, (.sl 0)), (9, (.v (.int .i64) x9)), (10, (.v (.int .i64) x10))], [(0, some ⟨TS0, 34, false, x0⟩), (4, some ⟨TS0, 34, true, x4⟩)]⟩
noncomputable def CleanMerged_j3 (K k : Nat) (x0 : List TS0.den) (x3 : Int) (i4 : Int) (x4 : List TS0.den) (i5 : Int) (x5 : List TS0.den) (x9 : Int) (x10 : Int) (x39 : Bool) : Option (Bool) := jumpF T sg (callF K) live28 k Go.Proofs.Tryd.f28 [.v .bool] [.r, .l, .r, .b, .lp, .r, .r, .l, .b, .r, .r, .r, .r, .l, .r] ⟨[(0, (.sl 0)), (3, (.v (.int .i64) x3)), (4, (.ptr 4 i4)), (5, (.ptr 5 i5)), (8, (.sl 0)), (9, (.v (.int .i64) x9)), (10, (.v (.int .i64) x10)), (39, (.v .bool x39))], [(0, some ⟨TS0, 34, false, x0⟩), (4, some ⟨TS0, 34, true, x4⟩), (5, some ⟨TS0, 34, true, x5⟩)]⟩
noncomputable def CleanMerged_j4 (K k : Nat) (x0 : List TS0.den) (x3 : Int) (i4 : Int) (x4 : List TS0.den) (i5 : Int) (x5 : List TS0.den) (x9 : Int) (x10 : Int) : Option (Bool) := jumpF T sg (callF K) live28 k Go.Proofs.Tryd.f28 [.v .bool] [.r, .l, .r, .b, .lp, .r, .r, .l, .b, .r, .r, .r, .r, .r] ⟨[(0, (.sl 0)), (3, (.v (.int .i64) x3)), (4, (.ptr 4 i4)), (5, (.ptr 5 i5)), (8, (.sl 0)), (9, (.v (.int .i64) x9)), (10, (.v (.int .i64) x10))], [(0, some ⟨TS0, 34, false, x0⟩), (4, some ⟨TS0, 34, true, x4⟩), (5, some ⟨TS0, 34, true, x5⟩)]⟩
noncomputable def CleanMerged_j5 (K k : Nat) (x0 : List TS0.den) (x3 : Int) (i4 : Int) (x4 : List TS0.den) (i5 : Int) (x5 : List TS0.den) (x9 : Int) (x10 : Int) (x47 : Bool) : Option (Bool) := jumpF T sg (callF K) live28 k Go.Proofs.Tryd.f28 [.v .bool] [.r, .l, .r, .b, .lp, .r, .r, .l, .b, .r, .r, .r, .r, .r, .l, .r] ⟨[(0, (.sl 0)), (3, (.v (.int .i64) x3)), (4, (.ptr 4 i4)), (5, (.ptr 5 i5)), (8, (.sl 0)), (9, (.v (.int .i64) x9)), (10, (.v (.int .i64) x10)), (47, (.v .bool x47))], [(0, some ⟨TS0, 34, false, x0⟩), (4, some ⟨TS0, 34, true, x4⟩), (5, some ⟨TS0, 34, true, x5⟩)]⟩
noncomputable def CleanMerged_j6 (K k : Nat) (x0 : List TS0.den) (x3 : Int) (i4 : Int) (x4 : List TS0.den) (i5 : Int) (x5 : List TS0.den) (x9 : Int) (x10 : Int) (x75 : Bool) : Option (Bool) := jumpF T sg (callF K) live28 k Go.Proofs.Tryd.f28 [.v .bool] [.r, .l, .r, .b, .lp, .r, .r, .l, .b, .r, .r, .r, .r, .r, .l, .r, .l, .r, .r] ⟨[(0, (.sl 0)), (3, (.v (.int .i64) x3)), (4, (.ptr 4 i4)), (5, (.ptr 5 i5)), (8, (.sl 0)), (9, (.v (.int .i64) x9)), (10, (.v (.int .i64) x10)), (75, (.v .bool x75))], [(0, some ⟨TS0, 34, false, x0⟩), (4, some ⟨TS0, 34, true, x4⟩), (5, some ⟨TS0, 34, true, x5⟩)]⟩
noncomputable def CleanMerged_j7 (K k : Nat) (x0 : List TS0.den) (x3 : Int) (i4 : Int) (x4 : List TS0.den) (i5 : Int) (x5 : List TS0.den) (x9 : Int) (x10 : Int) : Option (Bool) := jumpF T sg (callF K) live28 k Go.Proofs.Tryd.f28 [.v .bool] [.r, .l, .r, .b, .lp, .r, .r, .l, .b, .r, .r, .r, .r, .r, .r] ⟨[(0, (.sl 0)), (3, (.v (.int .i64) x3)), (4, (.ptr 4 i4)), (5, (.ptr 5 i5)), (8, (.sl 0)), (9, (.v (.int .i64) x9)), (10, (.v (.int .i64) x10))], [(0, some ⟨TS0, 34, false, x0⟩), (4, some ⟨TS0, 34, true, x4⟩), (5, some ⟨TS0, 34, true, x5⟩)]⟩
noncomputable def CleanMerged_j8 (K k : Nat) (x0 : List TS0.den) (x9 : Int) (x10 : Int) (x114 : Bool) : Option (Bool) := jumpF T sg (callF K) live28 k Go.Proofs.Tryd.f28 [.v .bool] [.r, .l, .r, .b, .lp, .r, .r, .l, .b, .r, .r, .r, .r, .r, .r, .r] ⟨[(0, (.sl 0)), (8, (.sl 0)), (9, (.v (.int .i64) x9)), (10, (.v (.int .i64) x10)), (114, (.v .bool x114))], [(0, some ⟨TS0, 34, false, x0⟩)]⟩
/-! ### CleanEdits: function 29 -/
noncomputable def CleanEdits (K : Nat) (x0 : List TS0.den) : Option (Int × Int) := callF K 29 (x0, ())
noncomputable def CleanEdits_l0 (K k : Nat) (x4 : Int) (x5 : Int) (x8 : List TS0.den) (x9 : Int) (x10 : Int) : Option (Int × Int) := jumpF T sg (callF K) live29 k Go.Proofs.Tryd.f29 [.v (.int .i64), .v (.int .i64)] [.r, .r, .l, .r, .b] ⟨[(4, (.v (.int .i64) x4)), (5, (.v (.int .i64) x5)), (8, (.sl 8)), (9, (.v (.int .i64) x9)), (10, (.v (.int .i64) x10))], [(8, some ⟨TS0, 34, false, x8⟩)]⟩
noncomputable def CleanEdits_j0 (K k : Nat) (x4 : Int) (x5 : Int) (x8 : List TS0.den) (x9 : Int) (x10 : Int) : Option (Int × Int) := jumpF T sg (callF K) live29 k Go.Proofs.Tryd.f29 [.v (.int .i64), .v (.int .i64)] [.r, .r, .l, .r, .b, .lp, .r, .r] ⟨[(4, (.v (.int .i64) x4)), (5, (.v (.int .i64) x5)), (8, (.sl 8)), (9, (.v (.int .i64) x9)), (10, (.v (.int .i64) x10))], [(8, some ⟨TS0, 34, false, x8⟩)]⟩
/-! ### CleanSemantic: function 31 -/
noncomputable def CleanSemantic (K : Nat) (x0 : List TS0.den) : Option (List TS0.den) := callF K 31 (x0, ())
/-! ### zzFits4: function 32 -/
noncomputable def zzFits4 (K : Nat) (x0 : TS0.den) : Option (Bool) := callF K 32 (x0, ())
/-! ### CleanRight: function 33 -/
noncomputable def CleanRight (K : Nat) (x0 : List TS0.den) (x1 : Int) (x2 : Int) (x3 : Bool) : Option (Bool) := callF K 33 (x0, x1, x2, x3, ())
noncomputable def CleanRight_j0 (K k : Nat) (x0 : List TS0.den) (x2 : Int) (x3 : Bool) : Option (Bool) := jumpF T sg (callF K) live33 k Go.Proofs.Tryd.f33 [.v .bool] [.r, .r] ⟨[(0, (.sl 0)), (2, (.v (.int .i64) x2)), (3, (.v .bool x3))], [(0, some ⟨TS0, 34, false, x0⟩)]⟩
noncomputable def CleanRight_l0 (K k : Nat) (x2 : Int) (x3 : Bool) (x16 : List TS0.den) (x17 : Int) (x18 : Int) : Option (Bool) := jumpF T sg (callF K) live33 k Go.Proofs.Tryd.f33 [.v .bool] [.r, .r, .l, .r, .b] ⟨[(2, (.v (.int .i64) x2)), (3, (.v .bool x3)), (16, (.sl 16)), (17, (.v (.int .i64) x17)), (18, (.v (.int .i64) x18))], [(16, some ⟨TS0, 34, false, x16⟩)]⟩
noncomputable def CleanRight_j1 (K k : Nat) (x2 : Int) (x3 : Bool) (x16 : List TS0.den) (x17 : Int) (x18 : Int) : Option (Bool) := jumpF T sg (callF K) live33 k Go.Proofs.Tryd.f33 [.v .bool] [.r, .r, .l, .r, .b, .lp, .r, .r] ⟨[(2, (.v (.int .i64) x2)), (3, (.v .bool x3)), (16, (.sl 16)), (17, (.v (.int .i64) x17)), (18, (.v (.int .i64) x18))], [(16, some ⟨TS0, 34, false, x16⟩)]⟩
noncomputable def CleanRight_j2 (K k : Nat) (x2 : Int) (x3 : Bool) (i10 : Int) (x10 : List TS0.den) (x16 : List TS0.den) (x17 : Int) (x18 : Int) (x41 : Bool) : Option (Bool) := jumpF T sg (callF K) live33 k Go.Proofs.Tryd.f33 [.v .bool] [.r, .r, .l, .r, .b, .lp, .r, .r, .l, .b, .r, .l, .r] ⟨[(2, (.v (.int .i64) x2)), (3, (.v .bool x3)), (10, (.ptr 10 i10)), (16, (.sl 16)), (17, (.v (.int .i64) x17)), (18, (.v (.int .i64) x18)), (41, (.v .bool x41))], [(10, some ⟨TS0, 34, true, x10⟩), (16, some ⟨TS0, 34, false, x16⟩)]⟩
noncomputable def CleanRight_j3 (K k : Nat) (x2 : Int) (x3 : Bool) (i10 : Int) (x10 : List TS0.den) (x16 : List TS0.den) (x17 : Int) (x18 : Int) : Option (Bool) := jumpF T sg (callF K) live33 k Go.Proofs.Tryd.f33 [.v .bool] [.r, .r, .l, .r, .b, .lp, .r, .r, .l, .b, .r, .r] ⟨[(2, (.v (.int .i64) x2)), (3, (.v .bool x3)), (10, (.ptr 10 i10)), (16, (.sl 16)), (17, (.v (.int .i64) x17)), (18, (.v (.int .i64) x18))], [(10, some ⟨TS0, 34, true, x10⟩), (16, some ⟨TS0, 34, false, x16⟩)]⟩
noncomputable def CleanRight_l1 (K k : Nat) (x2 : Int) (x3 : Bool) (i10 : Int) (x10 : List TS0.den) (x11 : Int) (x16 : List TS0.den) (x17 : Int) (x18 : Int) : Option (Bool) := jumpF T sg (callF K) live33 k Go.Proofs.Tryd.f33 [.v .bool] [.r, .r, .l, .r, .b, .lp, .r, .r, .l, .b, .r, .r, .r, .b] ⟨[(2, (.v (.int .i64) x2)), (3, (.v .bool x3)), (10, (.ptr 10 i10)), (11, (.v (.int .i64) x11)), (16, (.sl 16)), (17, (.v (.int .i64) x17)), (18, (.v (.int .i64) x18))], [(10, some ⟨TS0, 34, true, x10⟩), (16, some ⟨TS0, 34, false, x16⟩)]⟩
noncomputable def CleanRight_j4 (K k : Nat) (x2 : Int) (x3 : Bool) (i10 : Int) (x10 : List TS0.den) (x11 : Int) (x16 : List TS0.den) (x17 : Int) (x18 : Int) : Option (Bool) := jumpF T sg (callF K) live33 k Go.Proofs.Tryd.f33 [.v .bool] [.r, .r, .l, .r, .b, .lp, .r, .r, .l, .b, .r, .r, .r, .b, .lp, .r] ⟨[(2, (.v (.int .i64) x2)), (3, (.v .bool x3)), (10, (.ptr 10 i10)), (11, (.v (.int .i64) x11)), (16, (.sl 16)), (17, (.v (.int .i64) x17)), (18, (.v (.int .i64) x18))], [(10, some ⟨TS0, 34, true, x10⟩), (16, some ⟨TS0, 34, false, x16⟩)]⟩
/-! ### back: function 34 -/
noncomputable def back (K : Nat) (x0 : List TS2.den) : Option (List TS0.den) := callF K 34 (x0, ())
noncomputable def back_l0 (K k : Nat) (x3 : List TS0.den) (x6 : List TS2.den) (x7 : Int) (x8 : Int) : Option (List TS0.den) := jumpF T sg (callF K) live34 k Go.Proofs.Tryd.f34 [.sl TS0 26] [.r, .r, .l, .r, .b] ⟨[(3, (.sl 3)), (6, (.sl 6)), (7, (.v (.int .i64) x7)), (8, (.v (.int .i64) x8))], [(3, some ⟨TS0, 26, true, x3⟩), (6, some ⟨TS2, 59, false, x6⟩)]⟩
noncomputable def back_j0 (K k : Nat) (x3 : List TS0.den) (x6 : List TS2.den) (x7 : Int) (x8 : Int) : Option (List TS0.den) := jumpF T sg (callF K) live34 k Go.Proofs.Tryd.f34 [.sl TS0 26] [.r, .r, .l, .r, .b, .lp, .r, .r] ⟨[(3, (.sl 3)), (6, (.sl 6)), (7, (.v (.int .i64) x7)), (8, (.v (.int .i64) x8))], [(3, some ⟨TS0, 26, true, x3⟩), (6, some ⟨TS2, 59, false, x6⟩)]⟩
/-! ### plain: function 35 -/
noncomputable def plain (K : Nat) : Option (TS1.den) := callF K 35 ()
/-! ### DiffCleanupSemanticLossless: function 36 -/
noncomputable def DiffCleanupSemanticLossless (K : Nat) (x0 : TS1.den) (x1 : List TS2.den) : Option (List TS2.den) := callF K 36 (x0, x1, ())
noncomputable def DiffCleanupSemanticLossless_l0 (K k : Nat) (i0 : Int) (x0 : List TS1.den) (x1 : List TS2.den) (x5 : Int) : Option (List TS2.den) := jumpF T sg (callF K) live36 k Go.Proofs.Tryd.f36 [.sl TS2 59] [.r, .r, .l, .b] ⟨[(0, (.ptr 0 i0)), (1, (.sl 1)), (5, (.v (.int .i64) x5))], [(0, some ⟨TS1, 54, false, x0⟩), (1, some ⟨TS2, 59, true, x1⟩)]⟩
noncomputable def DiffCleanupSemanticLossless_j0 (K k : Nat) (i0 : Int) (x0 : List TS1.den) (x1 : List TS2.den) (x5 : Int) : Option (List TS2.den) := jumpF T sg (callF K) live36 k Go.Proofs.Tryd.f36 [.sl TS2 59] [.r, .r, .l, .b, .lp, .r] ⟨[(0, (.ptr 0 i0)), (1, (.sl 1)), (5, (.v (.int .i64) x5))], [(0, some ⟨TS1, 54, false, x0⟩), (1, some ⟨TS2, 59, true, x1⟩)]⟩
noncomputable def DiffCleanupSemanticLossless_j1 (K k : Nat) (i0 : Int) (x0 : List TS1.den) (x1 : List TS2.den) (x5 : Int) (x38 : Bool) : Option (List TS2.den) := jumpF T sg (callF K) live36 k Go.Proofs.Tryd.f36 [.sl TS2 59] [.r, .r, .l, .b, .lp, .r, .b, .l, .r] ⟨[(0, (.ptr 0 i0)), (1, (.sl 1)), (5, (.v (.int .i64) x5)), (38, (.v .bool x38))], [(0, some ⟨TS1, 54, false, x0⟩), (1, some ⟨TS2, 59, true, x1⟩)]⟩
noncomputable def DiffCleanupSemanticLossless_j2 (K k : Nat) (i0 : Int) (x0 : List TS1.den) (x1 : List TS2.den) (x5 : Int) (x6 : ByteArray) (x7 : ByteArray) (x8 : ByteArray) : Option (List TS2.den) := jumpF T sg (callF K) live36 k Go.Proofs.Tryd.f36 [.sl TS2 59] [.r, .r, .l, .b, .lp, .r, .b, .l, .r, .l, .r, .r, .r, .r, .r] ⟨[(0, (.ptr 0 i0)), (1, (.sl 1)), (5, (.v (.int .i64) x5)), (6, (.v .str x6)), (7, (.v .str x7)), (8, (.v .str x8))], [(0, some ⟨TS1, 54, false, x0⟩), (1, some ⟨TS2, 59, true, x1⟩)]⟩
noncomputable def DiffCleanupSemanticLossless_l1 (K k : Nat) (i0 : Int) (x0 : List TS1.den) (x1 : List TS2.den) (x5 : Int) (x6 : ByteArray) (x7 : ByteArray) (x8 : ByteArray) (x11 : ByteArray) (x12 : ByteArray) (x13 : ByteArray) (x14 : Int) : Option (List TS2.den) := jumpF T sg (callF K) live36 k Go.Proofs.Tryd.f36 [.sl TS2 59] [.r, .r, .l, .b, .lp, .r, .b, .l, .r, .l, .r, .r, .r, .r, .r, .r, .r, .r, .r, .l, .b] ⟨[(0, (.ptr 0 i0)), (1, (.sl 1)), (5, (.v (.int .i64) x5)), (6, (.v .str x6)), (7, (.v .str x7)), (8, (.v .str x8)), (11, (.v .str x11)), (12, (.v .str x12)), (13, (.v .str x13)), (14, (.v (.int .i64) x14))], [(0, some ⟨TS1, 54, false, x0⟩), (1, some ⟨TS2, 59, true, x1⟩)]⟩
noncomputable def DiffCleanupSemanticLossless_j3 (K k : Nat) (i0 : Int) (x0 : List TS1.den) (x1 : List TS2.den) (x5 : Int) (x6 : ByteArray) (x7 : ByteArray) (x8 : ByteArray) (x11 : ByteArray) (x12 : ByteArray) (x13 : ByteArray) (x14 : Int) : Option (List TS2.den) := jumpF T sg (callF K) live36 k Go.Proofs.Tryd.f36 [.sl TS2 59] [.r, .r, .l, .b, .lp, .r, .b, .l, .r, .l, .r, .r, .r, .r, .r, .r, .r, .r, .r, .l, .b, .lp, .r] ⟨[(0, (.ptr 0 i0)), (1, (.sl 1)), (5, (.v (.int .i64) x5)), (6, (.v .str x6)), (7, (.v .str x7)), (8, (.v .str x8)), (11, (.v .str x11)), (12, (.v .str x12)), (13, (.v .str x13)), (14, (.v (.int .i64) x14))], [(0, some ⟨TS1, 54, false, x0⟩), (1, some ⟨TS2, 59, true, x1⟩)]⟩
noncomputable def DiffCleanupSemanticLossless_j4 (K k : Nat) (i0 : Int) (x0 : List TS1.den) (x1 : List TS2.den) (x5 : Int) (x11 : ByteArray) (x12 : ByteArray) (x13 : ByteArray) : Option (List TS2.den) := jumpF T sg (callF K) live36 k Go.Proofs.Tryd.f36 [.sl TS2 59] [.r, .r, .l, .b, .lp, .r, .b, .l, .r, .l, .r, .r, .r, .r, .r, .r, .r, .r, .r, .r] ⟨[(0, (.ptr 0 i0)), (1, (.sl 1)), (5, (.v (.int .i64) x5)), (11, (.v .str x11)), (12, (.v .str x12)), (13, (.v .str x13))], [(0, some ⟨TS1, 54, false, x0⟩), (1, some ⟨TS2, 59, true, x1⟩)]⟩
noncomputable def DiffCleanupSemanticLossless_j5 (K k : Nat) (i0 : Int) (x0 : List TS1.den) (x1 : List TS2.den) (x5 : Int) (x6 : ByteArray) (x7 : ByteArray) (x8 : ByteArray) (x11 : ByteArray) (x12 : ByteArray) (x13 : ByteArray) (x14 : Int) (x16 : Int) : Option (List TS2.den) := jumpF T sg (callF K) live36 k Go.Proofs.Tryd.f36 [.sl TS2 59] [.r, .r, .l, .b, .lp, .r, .b, .l, .r, .l, .r, .r, .r, .r, .r, .r, .r, .r, .r, .l, .b, .lp, .r, .b, .r, .r] ⟨[(0, (.ptr 0 i0)), (1, (.sl 1)), (5, (.v (.int .i64) x5)), (6, (.v .str x6)), (7, (.v .str x7)), (8, (.v .str x8)), (11, (.v .str x11)), (12, (.v .str x12)), (13, (.v .str x13)), (14, (.v (.int .i64) x14)), (16, (.v (.int .i64) x16))], [(0, some ⟨TS1, 54, false, x0⟩), (1, some ⟨TS2, 59, true, x1⟩)]⟩
noncomputable def DiffCleanupSemanticLossless_j6 (K k : Nat) (i0 : Int) (x0 : List TS1.den) (x1 : List TS2.den) (x5 : Int) (x12 : ByteArray) (x13 : ByteArray) : Option (List TS2.den) := jumpF T sg (callF K) live36 k Go.Proofs.Tryd.f36 [.sl TS2 59] [.r, .r, .l, .b, .lp, .r, .b, .l, .r, .l, .r, .r, .r, .r, .r, .r, .r, .r, .r, .r, .r, .l, .r] ⟨[(0, (.ptr 0 i0)), (1, (.sl 1)), (5, (.v (.int .i64) x5)), (12, (.v .str x12)), (13, (.v .str x13))], [(0, some ⟨TS1, 54, false, x0⟩), (1, some ⟨TS2, 59, true, x1⟩)]⟩
/-! ### diffs: function 37 -/
noncomputable def diffs (K : Nat) (x0 : List TS0.den) : Option (List TS2.den) := callF K 37 (x0, ())
noncomputable def diffs_l0 (K k : Nat) (x3 : List TS2.den) (x6 : List TS0.den) (x7 : Int) (x8 : Int) : Option (List TS2.den) := jumpF T sg (callF K) live37 k Go.Proofs.Tryd.f37 [.sl TS2 59] [.r, .r, .l, .r, .b] ⟨[(3, (.sl 3)), (6, (.sl 6)), (7, (.v (.int .i64) x7)), (8, (.v (.int .i64) x8))], [(3, some ⟨TS2, 59, true, x3⟩), (6, some ⟨TS0, 26, false, x6⟩)]⟩
noncomputable def diffs_j0 (K k : Nat) (x3 : List TS2.den) (x6 : List TS0.den) (x7 : Int) (x8 : Int) : Option (List TS2.den) := jumpF T sg (callF K) live37 k Go.Proofs.Tryd.f37 [.sl TS2 59] [.r, .r, .l, .r, .b, .lp, .r, .r] ⟨[(3, (.sl 3)), (6, (.sl 6)), (7, (.v (.int .i64) x7)), (8, (.v (.int .i64) x8))], [(3, some ⟨TS2, 59, true, x3⟩), (6, some ⟨TS0, 26, false, x6⟩)]⟩
/-! ### CleanSide: function 38 -/
noncomputable def CleanSide (K : Nat) (x0 : List TS0.den) (x1 : Int) : Option (ByteArray) := callF K 38 (x0, x1, ())
noncomputable def CleanSide_l0 (K k : Nat) (x1 : Int) (x5 : ByteArray) (x8 : List TS0.den) (x9 : Int) (x10 : Int) : Option (ByteArray) := jumpF T sg (callF K) live38 k Go.Proofs.Tryd.f38 [.v .str] [.r, .r, .l, .r, .b] ⟨[(1, (.v (.int .i64) x1)), (5, (.v .str x5)), (8, (.sl 8)), (9, (.v (.int .i64) x9)), (10, (.v (.int .i64) x10))], [(8, some ⟨TS0, 34, false, x8⟩)]⟩
noncomputable def CleanSide_j0 (K k : Nat) (x1 : Int) (x5 : ByteArray) (x8 : List TS0.den) (x9 : Int) (x10 : Int) : Option (ByteArray) := jumpF T sg (callF K) live38 k Go.Proofs.Tryd.f38 [.v .str] [.r, .r, .l, .r, .b, .lp, .r, .r] ⟨[(1, (.v (.int .i64) x1)), (5, (.v .str x5)), (8, (.sl 8)), (9, (.v (.int .i64) x9)), (10, (.v (.int .i64) x10))], [(8, some ⟨TS0, 34, false, x8⟩)]⟩
/-! ### DiffCleanupMerge: function 39 -/
noncomputable def DiffCleanupMerge (K : Nat) (x0 : TS1.den) (x1 : List TS2.den) : Option (List TS2.den) := callF K 39 (x0, x1, ())
noncomputable def DiffCleanupMerge_l0 (K k : Nat) (i0 : Int) (x0 : List TS1.den) (x1 : List TS2.den) (x5 : Int) (x6 : Int) (x7 : Int) (x9 : List Int) (x10 : List Int) : Option (List TS2.den) := jumpF T sg (callF K) live39 k Go.Proofs.Tryd.f39 [.sl TS2 59] [.r, .r, .r, .r, .r, .r, .r, .r, .l, .b] ⟨[(0, (.ptr 0 i0)), (1, (.sl 1)), (5, (.v (.int .i64) x5)), (6, (.v (.int .i64) x6)), (7, (.v (.int .i64) x7)), (9, (.sl 9)), (10, (.sl 10))], [(0, some ⟨TS1, 54, false, x0⟩), (1, some ⟨TS2, 59, true, x1⟩), (9, some ⟨(.int .i32), 21, true, x9⟩), (10, some ⟨(.int .i32), 21, true, x10⟩)]⟩
noncomputable def DiffCleanupMerge_j0 (K k : Nat) (i0 : Int) (x0 : List TS1.den) (x1 : List TS2.den) (x5 : Int) (x6 : Int) (x7 : Int) (x9 : List Int) (x10 : List Int) : Option (List TS2.den) := jumpF T sg (callF K) live39 k Go.Proofs.Tryd.f39 [.sl TS2 59] [.r, .r, .r, .r, .r, .r, .r, .r, .l, .b, .lp, .r] ⟨[(0, (.ptr 0 i0)), (1, (.sl 1)), (5, (.v (.int .i64) x5)), (6, (.v (.int .i64) x6)), (7, (.v (.int .i64) x7)), (9, (.sl 9)), (10, (.sl 10))], [(0, some ⟨TS1, 54, false, x0⟩), (1, some ⟨TS2, 59, true, x1⟩), (9, some ⟨(.int .i32), 21, true, x9⟩), (10, some ⟨(.int .i32), 21, true, x10⟩)]⟩
noncomputable def DiffCleanupMerge_j1 (K k : Nat) (i0 : Int) (x0 : List TS1.den) (x1 : List TS2.den) : Option (List TS2.den) := jumpF T sg (callF K) live39 k Go.Proofs.Tryd.f39 [.sl TS2 59] [.r, .r, .r, .r, .r, .r, .r, .r, .r] ⟨[(0, (.ptr 0 i0)), (1, (.sl 1))], [(0, some ⟨TS1, 54, false, x0⟩), (1, some ⟨TS2, 59, true, x1⟩)]⟩
noncomputable def DiffCleanupMerge_j2 (K k : Nat) (i0 : Int) (x0 : List TS1.den) (x1 : List TS2.den) (x5 : Int) (x6 : Int) (x7 : Int) (x9 : List Int) (x10 : List Int) (x67 : Bool) : Option (List TS2.den) := jumpF T sg (callF K) live39 k Go.Proofs.Tryd.f39 [.sl TS2 59] [.r, .r, .r, .r, .r, .r, .r, .r, .l, .b, .lp, .r, .b, .r, .b, .r, .r, .r, .r, .r, .l, .l, .r, .l, .l, .r] ⟨[(0, (.ptr 0 i0)), (1, (.sl 1)), (5, (.v (.int .i64) x5)), (6, (.v (.int .i64) x6)), (7, (.v (.int .i64) x7)), (9, (.sl 9)), (10, (.sl 10)), (67, (.v .bool x67))], [(0, some ⟨TS1, 54, false, x0⟩), (1, some ⟨TS2, 59, true, x1⟩), (9, some ⟨(.int .i32), 21, true, x9⟩), (10, some ⟨(.int .i32), 21, true, x10⟩)]⟩
noncomputable def DiffCleanupMerge_j3 (K k : Nat) (i0 : Int) (x0 : List TS1.den) (x1 : List TS2.den) (x5 : Int) (x220 : Bool) : Option (List TS2.den) := jumpF T sg (callF K) live39 k Go.Proofs.Tryd.f39 [.sl TS2 59] [.r, .r, .r, .r, .r, .r, .r, .r, .l, .b, .lp, .r, .b, .r, .b, .r, .r, .r, .r, .r, .l, .l, .r, .r, .r] ⟨[(0, (.ptr 0 i0)), (1, (.sl 1)), (5, (.v (.int .i64) x5)), (220, (.v .bool x220))], [(0, some ⟨TS1, 54, false, x0⟩), (1, some ⟨TS2, 59, true, x1⟩)]⟩
noncomputable def DiffCleanupMerge_j4 (K k : Nat) (i0 : Int) (x0 : List TS1.den) (x1 : List TS2.den) : Option (List TS2.den) := jumpF T sg (callF K) live39 k Go.Proofs.Tryd.f39 [.sl TS2 59] [.r, .r, .r, .r, .r, .r, .r, .r, .r, .r] ⟨[(0, (.ptr 0 i0)), (1, (.sl 1))], [(0, some ⟨TS1, 54, false, x0⟩), (1, some ⟨TS2, 59, true, x1⟩)]⟩
noncomputable def DiffCleanupMerge_j5 (K k : Nat) (i0 : Int) (x0 : List TS1.den) (x1 : List TS2.den) (x5 : Int) (x6 : Int) (x7 : Int) (x8 : Int) (x9 : List Int) (x10 : List Int) (x11 : Int) (x88 : Bool) : Option (List TS2.den) := jumpF T sg (callF K) live39 k Go.Proofs.Tryd.f39 [.sl TS2 59] [.r, .r, .r, .r, .r, .r, .r, .r, .l, .b, .lp, .r, .b, .r, .b, .r, .r, .r, .r, .r, .l, .l, .r, .l, .l, .r, .l, .r, .l, .r, .l, .r, .l, .r] ⟨[(0, (.ptr 0 i0)), (1, (.sl 1)), (5, (.v (.int .i64) x5)), (6, (.v (.int .i64) x6)), (7, (.v (.int .i64) x7)), (8, (.v (.int .i64) x8)), (9, (.sl 9)), (10, (.sl 10)), (11, (.v (.int .i64) x11)), (88, (.v .bool x88))], [(0, some ⟨TS1, 54, false, x0⟩), (1, some ⟨TS2, 59, true, x1⟩), (9, some ⟨(.int .i32), 21, true, x9⟩), (10, some ⟨(.int .i32), 21, true, x10⟩)]⟩
noncomputable def DiffCleanupMerge_j6 (K k : Nat) (i0 : Int) (x0 : List TS1.den) (x1 : List TS2.den) (x5 : Int) (x6 : Int) (x7 : Int) (x9 : List Int) (x10 : List Int) : Option (List TS2.den) := jumpF T sg (callF K) live39 k Go.Proofs.Tryd.f39 [.sl TS2 59] [.r, .r, .r, .r, .r, .r, .r, .r, .l, .b, .lp, .r, .b, .r, .b, .r, .r, .r, .r, .r, .l, .l, .r, .l, .l, .r, .l, .r, .r] ⟨[(0, (.ptr 0 i0)), (1, (.sl 1)), (5, (.v (.int .i64) x5)), (6, (.v (.int .i64) x6)), (7, (.v (.int .i64) x7)), (9, (.sl 9)), (10, (.sl 10))], [(0, some ⟨TS1, 54, false, x0⟩), (1, some ⟨TS2, 59, true, x1⟩), (9, some ⟨(.int .i32), 21, true, x9⟩), (10, some ⟨(.int .i32), 21, true, x10⟩)]⟩
noncomputable def DiffCleanupMerge_j7 (K k : Nat) (i0 : Int) (x0 : List TS1.den) (x1 : List TS2.den) (x5 : Int) (x6 : Int) (x7 : Int) (x9 : List Int) (x10 : List Int) : Option (List TS2.den) := jumpF T sg (callF K) live39 k Go.Proofs.Tryd.f39 [.sl TS2 59] [.r, .r, .r, .r, .r, .r, .r, .r, .l, .b, .lp, .r, .b, .r, .b, .r, .r, .r, .r, .r, .l, .l, .r, .l, .r] ⟨[(0, (.ptr 0 i0)), (1, (.sl 1)), (5, (.v (.int .i64) x5)), (6, (.v (.int .i64) x6)), (7, (.v (.int .i64) x7)), (9, (.sl 9)), (10, (.sl 10))], [(0, some ⟨TS1, 54, false, x0⟩), (1, some ⟨TS2, 59, true, x1⟩), (9, some ⟨(.int .i32), 21, true, x9⟩), (10, some ⟨(.int .i32), 21, true, x10⟩)]⟩
noncomputable def DiffCleanupMerge_l1 (K k : Nat) (i0 : Int) (x0 : List TS1.den) (x1 : List TS2.den) (x5 : Int) (x14 : Bool) : Option (List TS2.den) := jumpF T sg (callF K) live39 k Go.Proofs.Tryd.f39 [.sl TS2 59] [.r, .r, .r, .r, .r, .r, .r, .r, .r, .r, .r, .r, .l, .b] ⟨[(0, (.ptr 0 i0)), (1, (.sl 1)), (5, (.v (.int .i64) x5)), (14, (.v .bool x14))], [(0, some ⟨TS1, 54, false, x0⟩), (1, some ⟨TS2, 59, true, x1⟩)]⟩
noncomputable def DiffCleanupMerge_j8 (K k : Nat) (i0 : Int) (x0 : List TS1.den) (x1 : List TS2.den) (x5 : Int) (x6 : Int) (x7 : Int) (x9 : List Int) (x10 : List Int) : Option (List TS2.den) := jumpF T sg (callF K) live39 k Go.Proofs.Tryd.f39 [.sl TS2 59] [.r, .r, .r, .r, .r, .r, .r, .r, .l, .b, .lp, .r, .b, .r, .b, .r, .r, .r, .r, .r, .l, .l, .r, .l, .l, .r, .l, .r, .r] ⟨[(0, (.ptr 0 i0)), (1, (.sl 1)), (5, (.v (.int .i64) x5)), (6, (.v (.int .i64) x6)), (7, (.v (.int .i64) x7)), (9, (.sl 9)), (10, (.sl 10))], [(0, some ⟨TS1, 54, false, x0⟩), (1, some ⟨TS2, 59, true, x1⟩), (9, some ⟨(.int .i32), 21, false, x9⟩), (10, some ⟨(.int .i32), 21, false, x10⟩)]⟩
noncomputable def DiffCleanupMerge_j9 (K k : Nat) (i0 : Int) (x0 : List TS1.den) (x1 : List TS2.den) (x5 : Int) (x6 : Int) (x7 : Int) : Option (List TS2.den) := jumpF T sg (callF K) live39 k Go.Proofs.Tryd.f39 [.sl TS2 59] [.r, .r, .r, .r, .r, .r, .r, .r, .l, .b, .lp, .r, .b, .r, .b, .r, .r, .r, .r, .r, .l, .l, .r, .l, .r, .r] ⟨[(0, (.ptr 0 i0)), (1, (.sl 1)), (5, (.v (.int .i64) x5)), (6, (.v (.int .i64) x6)), (7, (.v (.int .i64) x7))], [(0, some ⟨TS1, 54, false, x0⟩), (1, some ⟨TS2, 59, true, x1⟩)]⟩
noncomputable def DiffCleanupMerge_j10 (K k : Nat) (i0 : Int) (x0 : List TS1.den) (x1 : List TS2.den) (x5 : Int) (x14 : Bool) : Option (List TS2.den) := jumpF T sg (callF K) live39 k Go.Proofs.Tryd.f39 [.sl TS2 59] [.r, .r, .r, .r, .r, .r, .r, .r, .r, .r, .r, .r, .l, .b, .lp, .r] ⟨[(0, (.ptr 0 i0)), (1, (.sl 1)), (5, (.v (.int .i64) x5)), (14, (.v .bool x14))], [(0, some ⟨TS1, 54, false, x0⟩), (1, some ⟨TS2, 59, true, x1⟩)]⟩
noncomputable def DiffCleanupMerge_j11 (K k : Nat) (i0 : Int) (x0 : List TS1.den) (x1 : List TS2.den) (x14 : Bool) : Option (List TS2.den) := jumpF T sg (callF K) live39 k Go.Proofs.Tryd.f39 [.sl TS2 59] [.r, .r, .r, .r, .r, .r, .r, .r, .r, .r, .r, .r, .r] ⟨[(0, (.ptr 0 i0)), (1, (.sl 1)), (14, (.v .bool x14))], [(0, some ⟨TS1, 54, false, x0⟩), (1, some ⟨TS2, 59, true, x1⟩)]⟩
noncomputable def DiffCleanupMerge_j12 (K k : Nat) (i0 : Int) (x0 : List TS1.den) (x1 : List TS2.den) (x5 : Int) (x6 : Int) (x7 : Int) (x9 : List Int) (x10 : List Int) : Option (List TS2.den) := jumpF T sg (callF K) live39 k Go.Proofs.Tryd.f39 [.sl TS2 59] [.r, .r, .r, .r, .r, .r, .r, .r, .l, .b, .lp, .r, .b, .r, .b, .r, .r, .r, .r, .r, .l, .l, .r, .l, .r] ⟨[(0, (.ptr 0 i0)), (1, (.sl 1)), (5, (.v (.int .i64) x5)), (6, (.v (.int .i64) x6)), (7, (.v (.int .i64) x7)), (9, (.sl 9)), (10, (.sl 10))], [(0, some ⟨TS1, 54, false, x0⟩), (1, some ⟨TS2, 59, true, x1⟩), (9, some ⟨(.int .i32), 21, false, x9⟩), (10, some ⟨(.int .i32), 21, false, x10⟩)]⟩
noncomputable def DiffCleanupMerge_j13 (K k : Nat) (i0 : Int) (x0 : List TS1.den) (x1 : List TS2.den) (x5 : Int) (x7 : Int) : Option (List TS2.den) := jumpF T sg (callF K) live39 k Go.Proofs.Tryd.f39 [.sl TS2 59] [.r, .r, .r, .r, .r, .r, .r, .r, .l, .b, .lp, .r, .b, .r, .b, .r, .r, .r, .r, .r, .l, .l, .r, .l, .r, .r, .r, .r] ⟨[(0, (.ptr 0 i0)), (1, (.sl 1)), (5, (.v (.int .i64) x5)), (7, (.v (.int .i64) x7))], [(0, some ⟨TS1, 54, false, x0⟩), (1, some ⟨TS2, 59, true, x1⟩)]⟩
noncomputable def DiffCleanupMerge_j14 (K k : Nat) (i0 : Int) (x0 : List TS1.den) (x1 : List TS2.den) (x5 : Int) (x14 : Bool) (x279 : Bool) : Option (List TS2.den) := jumpF T sg (callF K) live39 k Go.Proofs.Tryd.f39 [.sl TS2 59] [.r, .r, .r, .r, .r, .r, .r, .r, .r, .r, .r, .r, .l, .b, .lp, .r, .b, .l, .r] ⟨[(0, (.ptr 0 i0)), (1, (.sl 1)), (5, (.v (.int .i64) x5)), (14, (.v .bool x14)), (279, (.v .bool x279))], [(0, some ⟨TS1, 54, false, x0⟩), (1, some ⟨TS2, 59, true, x1⟩)]⟩
/-! ### cleanEnds: function 40 -/
noncomputable def cleanEnds (K : Nat) (x0 : ByteArray) (x1 : ByteArray) : Option (Bool) := callF K 40 (x0, x1, ())
/-! ### cleanBegins: function 41 -/
noncomputable def cleanBegins (K : Nat) (x0 : ByteArray) (x1 : ByteArray) : Option (Bool) := callF K 41 (x0, x1, ())
/-! ### DiffCleanupSemantic: function 43 -/
noncomputable def DiffCleanupSemantic (K : Nat) (x0 : TS1.den) (x1 : List TS2.den) : Option (List TS2.den) := callF K 43 (x0, x1, ())
noncomputable def DiffCleanupSemantic_l0 (K k : Nat) (i0 : Int) (x0 : List TS1.den) (x1 : List TS2.den) (x5 : Bool) (x6 : List Int) (x7 : ByteArray) (x8 : Int) (x9 : Int) (x10 : Int) (x11 : Int) (x12 : Int) : Option (List TS2.den) := jumpF T sg (callF K) live43 k Go.Proofs.Tryd.f43 [.sl TS2 59] [.r, .r, .r, .r, .r, .r, .r, .l, .b] ⟨[(0, (.ptr 0 i0)), (1, (.sl 1)), (5, (.v .bool x5)), (6, (.sl 6)), (7, (.v .str x7)), (8, (.v (.int .i64) x8)), (9, (.v (.int .i64) x9)), (10, (.v (.int .i64) x10)), (11, (.v (.int .i64) x11)), (12, (.v (.int .i64) x12))], [(0, some ⟨TS1, 54, false, x0⟩), (1, some ⟨TS2, 59, true, x1⟩), (6, some ⟨(.int .i64), 3, true, x6⟩)]⟩
noncomputable def DiffCleanupSemantic_j0 (K k : Nat) (i0 : Int) (x0 : List TS1.den) (x1 : List TS2.den) (x5 : Bool) (x6 : List Int) (x7 : ByteArray) (x8 : Int) (x9 : Int) (x10 : Int) (x11 : Int) (x12 : Int) : Option (List TS2.den) := jumpF T sg (callF K) live43 k Go.Proofs.Tryd.f43 [.sl TS2 59] [.r, .r, .r, .r, .r, .r, .r, .l, .b, .lp, .r] ⟨[(0, (.ptr 0 i0)), (1, (.sl 1)), (5, (.v .bool x5)), (6, (.sl 6)), (7, (.v .str x7)), (8, (.v (.int .i64) x8)), (9, (.v (.int .i64) x9)), (10, (.v (.int .i64) x10)), (11, (.v (.int .i64) x11)), (12, (.v (.int .i64) x12))], [(0, some ⟨TS1, 54, false, x0⟩), (1, some ⟨TS2, 59, true, x1⟩), (6, some ⟨(.int .i64), 3, true, x6⟩)]⟩
noncomputable def DiffCleanupSemantic_j1 (K k : Nat) (i0 : Int) (x0 : List TS1.den) (x1 : List TS2.den) (x5 : Bool) : Option (List TS2.den) := jumpF T sg (callF K) live43 k Go.Proofs.Tryd.f43 [.sl TS2 59] [.r, .r, .r, .r, .r, .r, .r, .r] ⟨[(0, (.ptr 0 i0)), (1, (.sl 1)), (5, (.v .bool x5))], [(0, some ⟨TS1, 54, false, x0⟩), (1, some ⟨TS2, 59, true, x1⟩)]⟩
noncomputable def DiffCleanupSemantic_j2 (K k : Nat) (i0 : Int) (x0 : List TS1.den) (x1 : List TS2.den) (x5 : Bool) (x6 : List Int) (x7 : ByteArray) (x8 : Int) (x9 : Int) (x10 : Int) (x11 : Int) (x12 : Int) : Option (List TS2.den) := jumpF T sg (callF K) live43 k Go.Proofs.Tryd.f43 [.sl TS2 59] [.r, .r, .r, .r, .r, .r, .r, .l, .b, .lp, .r, .b, .l, .r, .r, .r] ⟨[(0, (.ptr 0 i0)), (1, (.sl 1)), (5, (.v .bool x5)), (6, (.sl 6)), (7, (.v .str x7)), (8, (.v (.int .i64) x8)), (9, (.v (.int .i64) x9)), (10, (.v (.int .i64) x10)), (11, (.v (.int .i64) x11)), (12, (.v (.int .i64) x12))], [(0, some ⟨TS1, 54, false, x0⟩), (1, some ⟨TS2, 59, true, x1⟩), (6, some ⟨(.int .i64), 3, true, x6⟩)]⟩
noncomputable def DiffCleanupSemantic_j3 (K k : Nat) (i0 : Int) (x0 : List TS1.den) (x1 : List TS2.den) : Option (List TS2.den) := jumpF T sg (callF K) live43 k Go.Proofs.Tryd.f43 [.sl TS2 59] [.r, .r, .r, .r, .r, .r, .r, .r, .r] ⟨[(0, (.ptr 0 i0)), (1, (.sl 1))], [(0, some ⟨TS1, 54, false, x0⟩), (1, some ⟨TS2, 59, true, x1⟩)]⟩
noncomputable def DiffCleanupSemantic_j4 (K k : Nat) (i0 : Int) (x0 : List TS1.den) (x1 : List TS2.den) (x5 : Bool) (x6 : List Int) (x7 : ByteArray) (x8 : Int) (x9 : Int) (x10 : Int) (x11 : Int) (x12 : Int) (x93 : Bool) : Option (List TS2.den) := jumpF T sg (callF K) live43 k Go.Proofs.Tryd.f43 [.sl TS2 59] [.r, .r, .r, .r, .r, .r, .r, .l, .b, .lp, .r, .b, .l, .r, .r, .r, .r, .r, .r] ⟨[(0, (.ptr 0 i0)), (1, (.sl 1)), (5, (.v .bool x5)), (6, (.sl 6)), (7, (.v .str x7)), (8, (.v (.int .i64) x8)), (9, (.v (.int .i64) x9)), (10, (.v (.int .i64) x10)), (11, (.v (.int .i64) x11)), (12, (.v (.int .i64) x12)), (93, (.v .bool x93))], [(0, some ⟨TS1, 54, false, x0⟩), (1, some ⟨TS2, 59, true, x1⟩), (6, some ⟨(.int .i64), 3, true, x6⟩)]⟩
noncomputable def DiffCleanupSemantic_l1 (K k : Nat) (i0 : Int) (x0 : List TS1.den) (x1 : List TS2.den) (x8 : Int) : Option (List TS2.den) := jumpF T sg (callF K) live43 k Go.Proofs.Tryd.f43 [.sl TS2 59] [.r, .r, .r, .r, .r, .r, .r, .r, .r, .r, .r, .l, .b] ⟨[(0, (.ptr 0 i0)), (1, (.sl 1)), (8, (.v (.int .i64) x8))], [(0, some ⟨TS1, 54, false, x0⟩), (1, some ⟨TS2, 59, true, x1⟩)]⟩
noncomputable def DiffCleanupSemantic_j5 (K k : Nat) (i0 : Int) (x0 : List TS1.den) (x1 : List TS2.den) (x6 : List Int) : Option (List TS2.den) := jumpF T sg (callF K) live43 k Go.Proofs.Tryd.f43 [.sl TS2 59] [.r, .r, .r, .r, .r, .r, .r, .l, .b, .lp, .r, .b, .l, .r, .r, .r, .r, .r, .r, .l, .r, .r, .r, .r, .r] ⟨[(0, (.ptr 0 i0)), (1, (.sl 1)), (6, (.sl 6))], [(0, some ⟨TS1, 54, false, x0⟩), (1, some ⟨TS2, 59, true, x1⟩), (6, some ⟨(.int .i64), 3, true, x6⟩)]⟩
noncomputable def DiffCleanupSemantic_j6 (K k : Nat) (i0 : Int) (x0 : List TS1.den) (x1 : List TS2.den) (x8 : Int) : Option (List TS2.den) := jumpF T sg (callF K) live43 k Go.Proofs.Tryd.f43 [.sl TS2 59] [.r, .r, .r, .r, .r, .r, .r, .r, .r, .r, .r, .l, .b, .lp, .r] ⟨[(0, (.ptr 0 i0)), (1, (.sl 1)), (8, (.v (.int .i64) x8))], [(0, some ⟨TS1, 54, false, x0⟩), (1, some ⟨TS2, 59, true, x1⟩)]⟩
noncomputable def DiffCleanupSemantic_j7 (K k : Nat) (i0 : Int) (x0 : List TS1.den) (x1 : List TS2.den) (x8 : Int) (x160 : Bool) : Option (List TS2.den) := jumpF T sg (callF K) live43 k Go.Proofs.Tryd.f43 [.sl TS2 59] [.r, .r, .r, .r, .r, .r, .r, .r, .r, .r, .r, .l, .b, .lp, .r, .b, .l, .r] ⟨[(0, (.ptr 0 i0)), (1, (.sl 1)), (8, (.v (.int .i64) x8)), (160, (.v .bool x160))], [(0, some ⟨TS1, 54, false, x0⟩), (1, some ⟨TS2, 59, true, x1⟩)]⟩
noncomputable def DiffCleanupSemantic_j8 (K k : Nat) (i0 : Int) (x0 : List TS1.den) (x1 : List TS2.den) (x8 : Int) (x16 : ByteArray) (x17 : ByteArray) (x18 : Int) (x198 : Bool) : Option (List TS2.den) := jumpF T sg (callF K) live43 k Go.Proofs.Tryd.f43 [.sl TS2 59] [.r, .r, .r, .r, .r, .r, .r, .r, .r, .r, .r, .l, .b, .lp, .r, .b, .l, .r, .l, .r, .r, .r, .r, .l, .r, .l, .r] ⟨[(0, (.ptr 0 i0)), (1, (.sl 1)), (8, (.v (.int .i64) x8)), (16, (.v .str x16)), (17, (.v .str x17)), (18, (.v (.int .i64) x18)), (198, (.v .bool x198))], [(0, some ⟨TS1, 54, false, x0⟩), (1, some ⟨TS2, 59, true, x1⟩)]⟩
noncomputable def DiffCleanupSemantic_j9 (K k : Nat) (i0 : Int) (x0 : List TS1.den) (x1 : List TS2.den) (x8 : Int) (x16 : ByteArray) (x17 : ByteArray) (x19 : Int) (x243 : Bool) : Option (List TS2.den) := jumpF T sg (callF K) live43 k Go.Proofs.Tryd.f43 [.sl TS2 59] [.r, .r, .r, .r, .r, .r, .r, .r, .r, .r, .r, .l, .b, .lp, .r, .b, .l, .r, .l, .r, .r, .r, .r, .l, .r, .r, .r] ⟨[(0, (.ptr 0 i0)), (1, (.sl 1)), (8, (.v (.int .i64) x8)), (16, (.v .str x16)), (17, (.v .str x17)), (19, (.v (.int .i64) x19)), (243, (.v .bool x243))], [(0, some ⟨TS1, 54, false, x0⟩), (1, some ⟨TS2, 59, true, x1⟩)]⟩
/-! ### CleanChars: function 44 -/
noncomputable def CleanChars (K : Nat) (x0 : ByteArray) (x1 : Int) : Option (Bool) := callF K 44 (x0, x1, ())
/-! ### New: function 45 -/
noncomputable def New (K : Nat) : Option (TS1.den) := callF K 45 ()
/-! ### DiffCommonSuffix: function 46 -/
noncomputable def DiffCommonSuffix (K : Nat) (x0 : TS1.den) (x1 : ByteArray) (x2 : ByteArray) : Option (Int) := callF K 46 (x0, x1, x2, ())
/-! ### diffCleanupSemanticScore: function 47 -/
noncomputable def diffCleanupSemanticScore (K : Nat) (x0 : ByteArray) (x1 : ByteArray) : Option (Int) := callF K 47 (x0, x1, ())
noncomputable def diffCleanupSemanticScore_j0 (K k : Nat) (x0 : ByteArray) (x1 : ByteArray) (x24 : Bool) : Option (Int) := jumpF T sg (callF K) live47 k Go.Proofs.Tryd.f47 [.v (.int .i64)] [.r, .l, .r] ⟨[(0, (.v .str x0)), (1, (.v .str x1)), (24, (.v .bool x24))], []⟩
noncomputable def diffCleanupSemanticScore_j1 (K k : Nat) (x0 : ByteArray) (x1 : ByteArray) : Option (Int) := jumpF T sg (callF K) live47 k Go.Proofs.Tryd.f47 [.v (.int .i64)] [.r, .r] ⟨[(0, (.v .str x0)), (1, (.v .str x1))], []⟩
noncomputable def diffCleanupSemanticScore_j2 (K k : Nat) (x0 : ByteArray) (x1 : ByteArray) (x5 : Int) (x7 : Int) (x9 : Bool) (x10 : Bool) (x11 : Bool) : Option (Int) := jumpF T sg (callF K) live47 k Go.Proofs.Tryd.f47 [.v (.int .i64)] [.r, .r, .r, .r, .r, .r, .r] ⟨[(0, (.v .str x0)), (1, (.v .str x1)), (5, (.v (.int .i32) x5)), (7, (.v (.int .i32) x7)), (9, (.v .bool x9)), (10, (.v .bool x10)), (11, (.v .bool x11))], []⟩
noncomputable def diffCleanupSemanticScore_j3 (K k : Nat) (x0 : ByteArray) (x1 : ByteArray) (x5 : Int) (x7 : Int) (x9 : Bool) (x10 : Bool) (x11 : Bool) (x12 : Bool) : Option (Int) := jumpF T sg (callF K) live47 k Go.Proofs.Tryd.f47 [.v (.int .i64)] [.r, .r, .r, .r, .r, .r, .r, .r] ⟨[(0, (.v .str x0)), (1, (.v .str x1)), (5, (.v (.int .i32) x5)), (7, (.v (.int .i32) x7)), (9, (.v .bool x9)), (10, (.v .bool x10)), (11, (.v .bool x11)), (12, (.v .bool x12))], []⟩
noncomputable def diffCleanupSemanticScore_j4 (K k : Nat) (x0 : ByteArray) (x1 : ByteArray) (x7 : Int) (x9 : Bool) (x10 : Bool) (x11 : Bool) (x12 : Bool) (x13 : Bool) : Option (Int) := jumpF T sg (callF K) live47 k Go.Proofs.Tryd.f47 [.v (.int .i64)] [.r, .r, .r, .r, .r, .r, .r, .r, .r] ⟨[(0, (.v .str x0)), (1, (.v .str x1)), (7, (.v (.int .i32) x7)), (9, (.v .bool x9)), (10, (.v .bool x10)), (11, (.v .bool x11)), (12, (.v .bool x12)), (13, (.v .bool x13))], []⟩
noncomputable def diffCleanupSemanticScore_j5 (K k : Nat) (x0 : ByteArray) (x1 : ByteArray) (x9 : Bool) (x10 : Bool) (x11 : Bool) (x12 : Bool) (x13 : Bool) (x14 : Bool) : Option (Int) := jumpF T sg (callF K) live47 k Go.Proofs.Tryd.f47 [.v (.int .i64)] [.r, .r, .r, .r, .r, .r, .r, .r, .r, .r] ⟨[(0, (.v .str x0)), (1, (.v .str x1)), (9, (.v .bool x9)), (10, (.v .bool x10)), (11, (.v .bool x11)), (12, (.v .bool x12)), (13, (.v .bool x13)), (14, (.v .bool x14))], []⟩
noncomputable def diffCleanupSemanticScore_j6 (K k : Nat) (x1 : ByteArray) (x9 : Bool) (x10 : Bool) (x11 : Bool) (x12 : Bool) (x13 : Bool) (x14 : Bool) (x15 : Bool) : Option (Int) := jumpF T sg (callF K) live47 k Go.Proofs.Tryd.f47 [.v (.int .i64)] [.r, .r, .r, .r, .r, .r, .r, .r, .r, .r, .r] ⟨[(1, (.v .str x1)), (9, (.v .bool x9)), (10, (.v .bool x10)), (11, (.v .bool x11)), (12, (.v .bool x12)), (13, (.v .bool x13)), (14, (.v .bool x14)), (15, (.v .bool x15))], []⟩
noncomputable def diffCleanupSemanticScore_j7 (K k : Nat) (x9 : Bool) (x10 : Bool) (x11 : Bool) (x12 : Bool) (x13 : Bool) (x14 : Bool) (x15 : Bool) (x16 : Bool) : Option (Int) := jumpF T sg (callF K) live47 k Go.Proofs.Tryd.f47 [.v (.int .i64)] [.r, .r, .r, .r, .r, .r, .r, .r, .r, .r, .r, .r] ⟨[(9, (.v .bool x9)), (10, (.v .bool x10)), (11, (.v .bool x11)), (12, (.v .bool x12)), (13, (.v .bool x13)), (14, (.v .bool x14)), (15, (.v .bool x15)), (16, (.v .bool x16))], []⟩
noncomputable def diffCleanupSemanticScore_j8 (K k : Nat) (x9 : Bool) (x10 : Bool) (x11 : Bool) (x12 : Bool) (x13 : Bool) (x14 : Bool) (x72 : Bool) : Option (Int) := jumpF T sg (callF K) live47 k Go.Proofs.Tryd.f47 [.v (.int .i64)] [.r, .r, .r, .r, .r, .r, .r, .r, .r, .r, .r, .r, .l, .r] ⟨[(9, (.v .bool x9)), (10, (.v .bool x10)), (11, (.v .bool x11)), (12, (.v .bool x12)), (13, (.v .bool x13)), (14, (.v .bool x14)), (72, (.v .bool x72))], []⟩
noncomputable def diffCleanupSemanticScore_j9 (K k : Nat) (x9 : Bool) (x10 : Bool) (x11 : Bool) (x12 : Bool) (x76 : Bool) : Option (Int) := jumpF T sg (callF K) live47 k Go.Proofs.Tryd.f47 [.v (.int .i64)] [.r, .r, .r, .r, .r, .r, .r, .r, .r, .r, .r, .r, .l, .r, .r, .r] ⟨[(9, (.v .bool x9)), (10, (.v .bool x10)), (11, (.v .bool x11)), (12, (.v .bool x12)), (76, (.v .bool x76))], []⟩
noncomputable def diffCleanupSemanticScore_j10 (K k : Nat) (x9 : Bool) (x10 : Bool) (x11 : Bool) (x12 : Bool) (x84 : Bool) : Option (Int) := jumpF T sg (callF K) live47 k Go.Proofs.Tryd.f47 [.v (.int .i64)] [.r, .r, .r, .r, .r, .r, .r, .r, .r, .r, .r, .r, .l, .r, .r, .r, .r, .r] ⟨[(9, (.v .bool x9)), (10, (.v .bool x10)), (11, (.v .bool x11)), (12, (.v .bool x12)), (84, (.v .bool x84))], []⟩
noncomputable def diffCleanupSemanticScore_j11 (K k : Nat) (x9 : Bool) (x10 : Bool) (x88 : Bool) : Option (Int) := jumpF T sg (callF K) live47 k Go.Proofs.Tryd.f47 [.v (.int .i64)] [.r, .r, .r, .r, .r, .r, .r, .r, .r, .r, .r, .r, .l, .r, .r, .r, .r, .r, .r, .r] ⟨[(9, (.v .bool x9)), (10, (.v .bool x10)), (88, (.v .bool x88))], []⟩
noncomputable def diffCleanupSemanticScore_j12 (K k : Nat) (x92 : Bool) : Option (Int) := jumpF T sg (callF K) live47 k Go.Proofs.Tryd.f47 [.v (.int .i64)] [.r, .r, .r, .r, .r, .r, .r, .r, .r, .r, .r, .r, .l, .r, .r, .r, .r, .r, .r, .r, .r, .r] ⟨[(92, (.v .bool x92))], []⟩
/-! ### DecodeRuneInString: function 48 -/
noncomputable def DecodeRuneInString (K : Nat) (x0 : ByteArray) : Option (Int × Int) := callF K 48 (x0, ())
noncomputable def DecodeRuneInString_j0 (K k : Nat) (x0 : ByteArray) (x10 : Bool) : Option (Int × Int) := jumpF T sg (callF K) live48 k Go.Proofs.Tryd.f48 [.v (.int .i32), .v (.int .i64)] [.r, .l, .r] ⟨[(0, (.v .str x0)), (10, (.v .bool x10))], []⟩
/-! ### splice: function 49 -/
noncomputable def splice (K : Nat) (x0 : List TS2.den) (x1 : Int) (x2 : Int) (x3 : List TS2.den) : Option (List TS2.den) := callF K 49 (x0, x1, x2, x3, ())
noncomputable def splice_j0 (K k : Nat) (x0 : List TS2.den) (x1 : Int) (x2 : Int) (x3 : List TS2.den) : Option (List TS2.den) := jumpF T sg (callF K) live49 k Go.Proofs.Tryd.f49 [.sl TS2 59] [.r, .r] ⟨[(0, (.sl 0)), (1, (.v (.int .i64) x1)), (2, (.v (.int .i64) x2)), (3, (.sl 3))], [(0, some ⟨TS2, 59, true, x0⟩), (3, some ⟨TS2, 59, false, x3⟩)]⟩
noncomputable def splice_l0 (K k : Nat) (x0 : List TS2.den) (x9 : Int) (a10 : Int) (b10 : Int) (x55 : Int) (x56 : Int) : Option (List TS2.den) := jumpF T sg (callF K) live49 k Go.Proofs.Tryd.f49 [.sl TS2 59] [.r, .r, .l, .r, .l, .r, .r, .r, .r, .l, .r, .b] ⟨[(0, (.sl 0)), (9, (.v (.int .i64) x9)), (10, (.cut 0 false a10 b10)), (55, (.v (.int .i64) x55)), (56, (.v (.int .i64) x56))], [(0, some ⟨TS2, 59, true, x0⟩)]⟩
noncomputable def splice_j1 (K k : Nat) (x0 : List TS2.den) (x1 : Int) (x2 : Int) (x3 : List TS2.den) : Option (List TS2.den) := jumpF T sg (callF K) live49 k Go.Proofs.Tryd.f49 [.sl TS2 59] [.r, .r, .r] ⟨[(0, (.sl 0)), (1, (.v (.int .i64) x1)), (2, (.v (.int .i64) x2)), (3, (.sl 3))], [(0, some ⟨TS2, 59, true, x0⟩), (3, some ⟨TS2, 59, false, x3⟩)]⟩
noncomputable def splice_j2 (K k : Nat) (x0 : List TS2.den) (x9 : Int) (a10 : Int) (b10 : Int) (x55 : Int) (x56 : Int) : Option (List TS2.den) := jumpF T sg (callF K) live49 k Go.Proofs.Tryd.f49 [.sl TS2 59] [.r, .r, .l, .r, .l, .r, .r, .r, .r, .l, .r, .b, .lp, .r, .r] ⟨[(0, (.sl 0)), (9, (.v (.int .i64) x9)), (10, (.cut 0 false a10 b10)), (55, (.v (.int .i64) x55)), (56, (.v (.int .i64) x56))], [(0, some ⟨TS2, 59, true, x0⟩)]⟩
noncomputable def splice_l1 (K k : Nat) (x0 : List TS2.den) (x1 : Int) (x2 : Int) (x3 : List TS2.den) (x12 : Int) : Option (List TS2.den) := jumpF T sg (callF K) live49 k Go.Proofs.Tryd.f49 [.sl TS2 59] [.r, .r, .r, .r, .l, .b] ⟨[(0, (.sl 0)), (1, (.v (.int .i64) x1)), (2, (.v (.int .i64) x2)), (3, (.sl 3)), (12, (.v (.int .i64) x12))], [(0, some ⟨TS2, 59, true, x0⟩), (3, some ⟨TS2, 59, false, x3⟩)]⟩
noncomputable def splice_j3 (K k : Nat) (x0 : List TS2.den) (x1 : Int) (x2 : Int) (x3 : List TS2.den) (x12 : Int) : Option (List TS2.den) := jumpF T sg (callF K) live49 k Go.Proofs.Tryd.f49 [.sl TS2 59] [.r, .r, .r, .r, .l, .b, .lp, .r] ⟨[(0, (.sl 0)), (1, (.v (.int .i64) x1)), (2, (.v (.int .i64) x2)), (3, (.sl 3)), (12, (.v (.int .i64) x12))], [(0, some ⟨TS2, 59, true, x0⟩), (3, some ⟨TS2, 59, false, x3⟩)]⟩
noncomputable def splice_j4 (K k : Nat) (x0 : List TS2.den) (x1 : Int) (x2 : Int) (x3 : List TS2.den) : Option (List TS2.den) := jumpF T sg (callF K) live49 k Go.Proofs.Tryd.f49 [.sl TS2 59] [.r, .r, .r, .r, .r] ⟨[(0, (.sl 0)), (1, (.v (.int .i64) x1)), (2, (.v (.int .i64) x2)), (3, (.sl 3))], [(0, some ⟨TS2, 59, true, x0⟩), (3, some ⟨TS2, 59, false, x3⟩)]⟩
/-! ### commonPrefixLength: function 50 -/
noncomputable def commonPrefixLength (K : Nat) (x0 : List Int) (x1 : List Int) : Option (Int) := callF K 50 (x0, x1, ())
noncomputable def commonPrefixLength_l0 (K k : Nat) (x0 : List Int) (x1 : List Int) (x5 : Int) : Option (Int) := jumpF T sg (callF K) live50 k Go.Proofs.Tryd.f50 [.v (.int .i64)] [.r, .r, .l, .b] ⟨[(0, (.sl 0)), (1, (.sl 1)), (5, (.v (.int .i64) x5))], [(0, some ⟨(.int .i32), 21, false, x0⟩), (1, some ⟨(.int .i32), 21, false, x1⟩)]⟩
noncomputable def commonPrefixLength_j0 (K k : Nat) (x0 : List Int) (x1 : List Int) (x5 : Int) : Option (Int) := jumpF T sg (callF K) live50 k Go.Proofs.Tryd.f50 [.v (.int .i64)] [.r, .r, .l, .b, .lp, .r] ⟨[(0, (.sl 0)), (1, (.sl 1)), (5, (.v (.int .i64) x5))], [(0, some ⟨(.int .i32), 21, false, x0⟩), (1, some ⟨(.int .i32), 21, false, x1⟩)]⟩
/-! ### commonSuffixLength: function 51 -/
noncomputable def commonSuffixLength (K : Nat) (x0 : List Int) (x1 : List Int) : Option (Int) := callF K 51 (x0, x1, ())
noncomputable def commonSuffixLength_l0 (K k : Nat) (x0 : List Int) (x1 : List Int) (x5 : Int) (x6 : Int) (x7 : Int) : Option (Int) := jumpF T sg (callF K) live51 k Go.Proofs.Tryd.f51 [.v (.int .i64)] [.r, .r, .r, .r, .b] ⟨[(0, (.sl 0)), (1, (.sl 1)), (5, (.v (.int .i64) x5)), (6, (.v (.int .i64) x6)), (7, (.v (.int .i64) x7))], [(0, some ⟨(.int .i32), 21, false, x0⟩), (1, some ⟨(.int .i32), 21, false, x1⟩)]⟩
noncomputable def commonSuffixLength_j0 (K k : Nat) (x0 : List Int) (x1 : List Int) (x5 : Int) (x6 : Int) (x7 : Int) (x34 : Bool) : Option (Int) := jumpF T sg (callF K) live51 k Go.Proofs.Tryd.f51 [.v (.int .i64)] [.r, .r, .r, .r, .b, .lp, .l, .b, .r, .r, .r] ⟨[(0, (.sl 0)), (1, (.sl 1)), (5, (.v (.int .i64) x5)), (6, (.v (.int .i64) x6)), (7, (.v (.int .i64) x7)), (34, (.v .bool x34))], [(0, some ⟨(.int .i32), 21, false, x0⟩), (1, some ⟨(.int .i32), 21, false, x1⟩)]⟩
/-! ### strings_HasSuffix: function 52 -/
noncomputable def strings_HasSuffix (K : Nat) (x0 : ByteArray) (x1 : ByteArray) : Option (Bool) := callF K 52 (x0, x1, ())
/-! ### strings_HasPrefix: function 53 -/
noncomputable def strings_HasPrefix (K : Nat) (x0 : ByteArray) (x1 : ByteArray) : Option (Bool) := callF K 53 (x0, x1, ())
/-! ### DiffCommonOverlap: function 56 -/
noncomputable def DiffCommonOverlap (K : Nat) (x0 : TS1.den) (x1 : ByteArray) (x2 : ByteArray) : Option (Int) := callF K 56 (x0, x1, x2, ())
noncomputable def DiffCommonOverlap_j0 (K k : Nat) (x1 : ByteArray) (x2 : ByteArray) (x7 : Int) (x8 : Int) (x23 : Bool) : Option (Int) := jumpF T sg (callF K) live56 k Go.Proofs.Tryd.f56 [.v (.int .i64)] [.r, .r, .r, .l, .r] ⟨[(1, (.v .str x1)), (2, (.v .str x2)), (7, (.v (.int .i64) x7)), (8, (.v (.int .i64) x8)), (23, (.v .bool x23))], []⟩
noncomputable def DiffCommonOverlap_j1 (K k : Nat) (x1 : ByteArray) (x2 : ByteArray) (x7 : Int) (x8 : Int) : Option (Int) := jumpF T sg (callF K) live56 k Go.Proofs.Tryd.f56 [.v (.int .i64)] [.r, .r, .r, .r] ⟨[(1, (.v .str x1)), (2, (.v .str x2)), (7, (.v (.int .i64) x7)), (8, (.v (.int .i64) x8))], []⟩
noncomputable def DiffCommonOverlap_j2 (K k : Nat) (x1 : ByteArray) (x2 : ByteArray) (x7 : Int) (x8 : Int) : Option (Int) := jumpF T sg (callF K) live56 k Go.Proofs.Tryd.f56 [.v (.int .i64)] [.r, .r, .r, .r, .r] ⟨[(1, (.v .str x1)), (2, (.v .str x2)), (7, (.v (.int .i64) x7)), (8, (.v (.int .i64) x8))], []⟩
noncomputable def DiffCommonOverlap_j3 (K k : Nat) (x1 : ByteArray) (x2 : ByteArray) (x9 : Int) : Option (Int) := jumpF T sg (callF K) live56 k Go.Proofs.Tryd.f56 [.v (.int .i64)] [.r, .r, .r, .r, .r, .r, .r] ⟨[(1, (.v .str x1)), (2, (.v .str x2)), (9, (.v (.int .i64) x9))], []⟩
noncomputable def DiffCommonOverlap_l0 (K k : Nat) (x1 : ByteArray) (x2 : ByteArray) (x9 : Int) (x10 : Int) (x11 : Int) : Option (Int) := jumpF T sg (callF K) live56 k Go.Proofs.Tryd.f56 [.v (.int .i64)] [.r, .r, .r, .r, .r, .r, .r, .r, .r, .l, .b] ⟨[(1, (.v .str x1)), (2, (.v .str x2)), (9, (.v (.int .i64) x9)), (10, (.v (.int .i64) x10)), (11, (.v (.int .i64) x11))], []⟩
noncomputable def DiffCommonOverlap_j4 (K k : Nat) (x1 : ByteArray) (x2 : ByteArray) (x9 : Int) (x10 : Int) (x11 : Int) (x13 : Int) : Option (Int) := jumpF T sg (callF K) live56 k Go.Proofs.Tryd.f56 [.v (.int .i64)] [.r, .r, .r, .r, .r, .r, .r, .r, .r, .l, .b, .lp, .b, .r, .r, .r] ⟨[(1, (.v .str x1)), (2, (.v .str x2)), (9, (.v (.int .i64) x9)), (10, (.v (.int .i64) x10)), (11, (.v (.int .i64) x11)), (13, (.v (.int .i64) x13))], []⟩
noncomputable def DiffCommonOverlap_j5 (K k : Nat) (x1 : ByteArray) (x2 : ByteArray) (x9 : Int) (x10 : Int) (x11 : Int) (x73 : Bool) : Option (Int) := jumpF T sg (callF K) live56 k Go.Proofs.Tryd.f56 [.v (.int .i64)] [.r, .r, .r, .r, .r, .r, .r, .r, .r, .l, .b, .lp, .b, .r, .r, .r, .r, .r] ⟨[(1, (.v .str x1)), (2, (.v .str x2)), (9, (.v (.int .i64) x9)), (10, (.v (.int .i64) x10)), (11, (.v (.int .i64) x11)), (73, (.v .bool x73))], []⟩
/-! ### DecodeLastRuneInString: function 57 -/
noncomputable def DecodeLastRuneInString (K : Nat) (x0 : ByteArray) : Option (Int × Int) := callF K 57 (x0, ())
noncomputable def DecodeLastRuneInString_j0 (K k : Nat) (x0 : ByteArray) (x4 : Int) : Option (Int × Int) := jumpF T sg (callF K) live57 k Go.Proofs.Tryd.f57 [.v (.int .i32), .v (.int .i64)] [.r, .r, .r] ⟨[(0, (.v .str x0)), (4, (.v (.int .i64) x4))], []⟩
noncomputable def DecodeLastRuneInString_j1 (K k : Nat) (x0 : ByteArray) (x4 : Int) (x5 : Int) : Option (Int × Int) := jumpF T sg (callF K) live57 k Go.Proofs.Tryd.f57 [.v (.int .i32), .v (.int .i64)] [.r, .r, .r, .r, .r, .r] ⟨[(0, (.v .str x0)), (4, (.v (.int .i64) x4)), (5, (.v (.int .i64) x5))], []⟩
noncomputable def DecodeLastRuneInString_l0 (K k : Nat) (x0 : ByteArray) (x4 : Int) (x5 : Int) (x6 : Int) : Option (Int × Int) := jumpF T sg (callF K) live57 k Go.Proofs.Tryd.f57 [.v (.int .i32), .v (.int .i64)] [.r, .r, .r, .r, .r, .r, .r, .l, .r, .b] ⟨[(0, (.v .str x0)), (4, (.v (.int .i64) x4)), (5, (.v (.int .i64) x5)), (6, (.v (.int .i64) x6))], []⟩
noncomputable def DecodeLastRuneInString_j2 (K k : Nat) (x0 : ByteArray) (x4 : Int) (x5 : Int) (x6 : Int) : Option (Int × Int) := jumpF T sg (callF K) live57 k Go.Proofs.Tryd.f57 [.v (.int .i32), .v (.int .i64)] [.r, .r, .r, .r, .r, .r, .r, .l, .r, .b, .lp, .r] ⟨[(0, (.v .str x0)), (4, (.v (.int .i64) x4)), (5, (.v (.int .i64) x5)), (6, (.v (.int .i64) x6))], []⟩
noncomputable def DecodeLastRuneInString_j3 (K k : Nat) (x0 : ByteArray) (x4 : Int) (x5 : Int) : Option (Int × Int) := jumpF T sg (callF K) live57 k Go.Proofs.Tryd.f57 [.v (.int .i32), .v (.int .i64)] [.r, .r, .r, .r, .r, .r, .r, .r] ⟨[(0, (.v .str x0)), (4, (.v (.int .i64) x4)), (5, (.v (.int .i64) x5))], []⟩
noncomputable def DecodeLastRuneInString_j4 (K k : Nat) (x0 : ByteArray) (x4 : Int) (x5 : Int) : Option (Int × Int) := jumpF T sg (callF K) live57 k Go.Proofs.Tryd.f57 [.v (.int .i32), .v (.int .i64)] [.r, .r, .r, .r, .r, .r, .r, .r, .r] ⟨[(0, (.v .str x0)), (4, (.v (.int .i64) x4)), (5, (.v (.int .i64) x5))], []⟩
/-! ### zzNotAlnum: function 58 -/
noncomputable def zzNotAlnum (K : Nat) (x0 : Int) : Option (Bool) := callF K 58 (x0, ())
/-! ### zzWhite: function 59 -/
noncomputable def zzWhite (K : Nat) (x0 : Int) : Option (Bool) := callF K 59 (x0, ())
/-! ### zzBreak: function 60 -/
noncomputable def zzBreak (K : Nat) (x0 : Int) : Option (Bool) := callF K 60 (x0, ())
/-! ### zzBlankEnd: function 61 -/
noncomputable def zzBlankEnd (K : Nat) (x0 : ByteArray) : Option (Bool) := callF K 61 (x0, ())
noncomputable def zzBlankEnd_j0 (K k : Nat) (x0 : ByteArray) (x3 : Int) (x14 : Bool) : Option (Bool) := jumpF T sg (callF K) live61 k Go.Proofs.Tryd.f61 [.v .bool] [.r, .r, .l, .r] ⟨[(0, (.v .str x0)), (3, (.v (.int .i64) x3)), (14, (.v .bool x14))], []⟩
noncomputable def zzBlankEnd_j1 (K k : Nat) (x0 : ByteArray) (x3 : Int) : Option (Bool) := jumpF T sg (callF K) live61 k Go.Proofs.Tryd.f61 [.v .bool] [.r, .r, .r] ⟨[(0, (.v .str x0)), (3, (.v (.int .i64) x3))], []⟩
/-! ### decodeRuneInStringSlow: function 62 -/
noncomputable def decodeRuneInStringSlow (K : Nat) (x0 : ByteArray) : Option (Int × Int) := callF K 62 (x0, ())
noncomputable def decodeRuneInStringSlow_j0 (K k : Nat) (x0 : ByteArray) (x4 : Int) : Option (Int × Int) := jumpF T sg (callF K) live62 k Go.Proofs.Tryd.f62 [.v (.int .i32), .v (.int .i64)] [.r, .r, .r] ⟨[(0, (.v .str x0)), (4, (.v (.int .i64) x4))], []⟩
/-! ### stringslite_HasSuffix: function 63 -/
noncomputable def stringslite_HasSuffix (K : Nat) (x0 : ByteArray) (x1 : ByteArray) : Option (Bool) := callF K 63 (x0, x1, ())
/-! ### stringslite_HasPrefix: function 64 -/
noncomputable def stringslite_HasPrefix (K : Nat) (x0 : ByteArray) (x1 : ByteArray) : Option (Bool) := callF K 64 (x0, x1, ())
/-! ### zzIndex: function 68 -/
noncomputable def zzIndex (K : Nat) (x0 : ByteArray) (x1 : ByteArray) : Option (Int) := callF K 68 (x0, x1, ())
noncomputable def zzIndex_l0 (K k : Nat) (x0 : ByteArray) (x1 : ByteArray) (x5 : Int) : Option (Int) := jumpF T sg (callF K) live68 k Go.Proofs.Tryd.f68 [.v (.int .i64)] [.r, .l, .r, .b] ⟨[(0, (.v .str x0)), (1, (.v .str x1)), (5, (.v (.int .i64) x5))], []⟩
noncomputable def zzIndex_j0 (K k : Nat) (x0 : ByteArray) (x1 : ByteArray) (x5 : Int) : Option (Int) := jumpF T sg (callF K) live68 k Go.Proofs.Tryd.f68 [.v (.int .i64)] [.r, .l, .r, .b, .lp, .r] ⟨[(0, (.v .str x0)), (1, (.v .str x1)), (5, (.v (.int .i64) x5))], []⟩
/-! ### RuneStart: function 69 -/
noncomputable def RuneStart (K : Nat) (x0 : Int) : Option (Bool) := callF K 69 (x0, ())
end
end Go.Proofs.YtaabfadjemmibaaDoor.E
