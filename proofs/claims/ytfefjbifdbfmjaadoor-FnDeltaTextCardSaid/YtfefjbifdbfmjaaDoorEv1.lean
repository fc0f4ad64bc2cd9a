import Derived.Laws.OwnMore
import Derived.Laws.IdiomStrings
import Derived.Laws.Cover4
import Derived.Laws.Slices
import Derived.Laws.Concat
import Derived.Laws.Entries
import Derived.DataElems
import Derived.Orders
import Derived.Tactics
import Derived.OneCell
import Derived.KernelRfl
import Derived.Laws.FloatArith
import Derived.Laws.MakeOwn
import Derived.Maps.AppendAt
import Derived.Laws.StructEq
import Derived.Laws.Cover3
import Derived.Laws.Tables
import Derived.Laws.Strings2
/- An evaluator of the model, and that it is sound: part 1 of 3. -/
set_option linter.unusedVariables false
set_option linter.unusedSimpArgs false
/-
An evaluator of the model's code on typed states: the definitions.
-/
namespace Go.Ev
/-- A struct's fields stand in line, the last one as 'one'. -/
inductive Ty where
  | int (k : IntKind) | bool | str | flt | nils | nile | one (a : Ty) | pair (a b : Ty)
@[reducible] def Ty.den : Ty → Type
  | .int _ => Int | .bool => Bool | .str => ByteArray | .flt => Nat | .nils => Unit | .nile => Unit | .one a => a.den | .pair a b => a.den × b.den
def Ty.sz : Ty → Nat
  | .one a => a.sz | .pair a b => a.sz + b.sz | _ => 1
def Ty.zero : (t : Ty) → t.den
  | .int _ => (0 : Int) | .bool => false | .str => (⟨#[]⟩ : ByteArray) | .flt => (0 : Nat) | .nils => () | .nile => () | .one a => a.zero | .pair a b => (a.zero, b.zero)
def Ty.cells : (t : Ty) → t.den → List Value
  | .int k, n => [.int k n] | .bool, b => [.bool b] | .str, s => [.string s] | .flt, n => [.float .f64 n] | .nils, _ => [.slice none 0 0] | .nile, _ => [.nilIface]
  | .one a, x => a.cells x | .pair a b, x => a.cells x.1 ++ b.cells x.2
def Ty.val : (t : Ty) → t.den → Value
  | .int k, n => .int k n | .bool, b => .bool b | .str, s => .string s | .flt, n => .float .f64 n | .nils, _ => .slice none 0 0 | .nile, _ => .nilIface
  | .one a, x => .agg (a.cells x).toArray | .pair a b, x => .agg (a.cells x.1 ++ b.cells x.2).toArray
def Ty.isStruct : Ty → Bool
  | .one _ | .pair _ _ => true
  | _ => false
def kbeq : IntKind → IntKind → Bool
  | .i8, .i8 | .i16, .i16 | .i32, .i32 | .i64, .i64 | .u8, .u8 | .u16, .u16 | .u32, .u32 | .u64, .u64 => true
  | _, _ => false
theorem kbeq_eq : ∀ {j k : IntKind}, kbeq j k = true → j = k := by
  intro j k; cases j <;> cases k <;> first | (intro; rfl) | (intro h; cases h)
def Ty.beq : Ty → Ty → Bool
  | .int j, .int k => kbeq j k
  | .bool, .bool | .str, .str | .flt, .flt | .nils, .nils | .nile, .nile => true
  | .one a, .one b => a.beq b
  | .pair a b, .pair c d => a.beq c && b.beq d
  | _, _ => false
theorem Ty.beq_eq : ∀ {s t : Ty}, s.beq t = true → s = t
  | .int j, t, h => by cases t <;> first | cases h | rw [kbeq_eq h]
  | .bool, t, h => by cases t <;> first | rfl | cases h
  | .str, t, h => by cases t <;> first | rfl | cases h
  | .flt, t, h => by cases t <;> first | rfl | cases h
  | .nils, t, h => by cases t <;> first | rfl | cases h
  | .nile, t, h => by cases t <;> first | rfl | cases h
  | .one a, t, h => by cases t <;> first | cases h | rw [Ty.beq_eq (s := a) h]
  | .pair a b, t, h => by
    cases t <;> first | cases h | skip
    rename_i c d
    have h' : (a.beq c && b.beq d) = true := h
    rw [Bool.and_eq_true] at h'
    rw [Ty.beq_eq h'.1, Ty.beq_eq h'.2]
/-- Something of a type family, at another type if it is the same. -/
def cast? {F : Ty → Type} (s t : Ty) (x : F s) : Option (F t) := if h : s.beq t = true then some (Ty.beq_eq h ▸ x) else none
/-- A field: its type, its place, itself; another one put. -/
def Ty.fld : Ty → Nat → Option Ty
  | .one a, 0 => some a
  | .pair a _, 0 => some a
  | .pair _ b, j + 1 => b.fld j
  | _, _ => none
def Ty.off : Ty → Nat → Nat
  | .pair a b, j + 1 => a.sz + b.off j
  | _, _ => 0
def Ty.get : (t : Ty) → Nat → t.den → (s : Ty) × s.den
  | .one a, _, x => ⟨a, x⟩
  | .pair a _, 0, x => ⟨a, x.1⟩
  | .pair _ b, j + 1, x => b.get j x.2
  | t, _, x => ⟨t, x⟩
def Ty.put : (t : Ty) → Nat → t.den → (s : Ty) → s.den → Option t.den
  | .one a, 0, _, s, y => cast? (F := Ty.den) s a y
  | .pair a _, 0, x, s, y => (match cast? (F := Ty.den) s a y with
      | some z => some (z, x.2)
      | none => none)
  | .pair _ b, j + 1, x, s, y => (match b.put j x.2 s y with
      | some z => some (x.1, z)
      | none => none)
  | _, _, _, _, _ => none
def cellsL (t : Ty) (xs : List t.den) : List Value := (xs.map t.cells).flatten
/-- The code points of a text, as '[]rune(s)' has them; the text of code points. -/
def intsOf (l : List Value) : List Int := l.map fun v => match v with | .int _ n => n | _ => 0
def runesI (s : ByteArray) : List Int := intsOf (Conv.runesFrom s s.size 0 #[]).toList
def strOfRunes (l : List Int) : ByteArray := runesBytes l
/-- The bytes of a text, as numbers; the text of bytes. -/
def bytesI (s : ByteArray) : List Int := s.data.toList.map fun b => (b.toNat : Int)
def strOfBytes (l : List Int) : ByteArray := ⟨(l.map fun n => UInt8.ofNat n.toNat).toArray⟩
def bt (s : ByteArray) (i : Int) : Int := if h : i.toNat < s.size then ((s[i.toNat]'h).toNat : Int) else 0
/-- A part of a result. -/
inductive AC where
  | v (t : Ty) (x : t.den) | sl (r : Nat) | pt (r : Nat)
/-- What a temporary may hold. A row has a name. -/
inductive AV where
  | v (t : Ty) (x : t.den)
  | sl (r : Nat)                                 -- a whole row
  | cut (r : Nat) (p : Bool) (lo hi : Int)       -- a part of a row; p: from its beginning on
  | ptr (r : Nat) (i : Int)                      -- an element's address
  | fptr (r : Nat) (i : Int) (j : Nat)           -- a field's address
  | op                                           -- a value of which nothing is known
  | nilS (t : Ty) (e : TypeId)
  | nilP
  | u
  | tup (l : List AC)
structure Row where
  t : Ty
  e : TypeId
  own : Bool
  xs : List t.den
/-- What the names of rows stand for: none: never used; some none: gone. -/
abbrev RW := Nat → Option (Option Row)
def row (rw : RW) (r : Nat) : Option Row := match rw r with
  | some (some x) => some x
  | _ => none
structure St where
  sl : List (Nat × AV)
  rows : List (Nat × Option Row)
def look {α : Type} (l : List (Nat × α)) (n : Nat) : Option α := match l with
  | [] => none
  | (m, a) :: r => bif Nat.beq m n then some a else look r n
def set {α : Type} (l : List (Nat × α)) (n : Nat) (a : α) : List (Nat × α) := match l with
  | [] => [(n, a)]
  | (m, b) :: r => bif Nat.beq m n then (n, a) :: r else (m, b) :: set r n a
/-- A branch on a value that is not known. -/
def br {α : Type} (c : Bool) (a b : α) : α := cond c a b
/-- .. of which one way is none. -/
def chk {R : Type} (c : Bool) (a : Option R) : Option R := br c a none
abbrev Upd := List (Nat × Option Row)
def upd (l : List (Nat × Option Row)) : Upd → List (Nat × Option Row)
  | [] => l
  | (n, x) :: us => upd (set l n x) us
def updF (rw : RW) : Upd → RW
  | [] => rw
  | (n, x) :: us => updF (fun m => if m = n then some x else rw m) us
structure Tab where
  ty : TypeId → Option Ty
  sl : TypeId → Option (Ty × TypeId)
  eq : TypeId → Bool
  lt : Int → Int → Bool
  le : Int → Int → Bool
  eqI : Int → Int → Bool
  nle : Nat → Nat → Bool
  eqS : ByteArray → ByteArray → Bool
  i2f : Int → Nat
  f2iOk : IntKind → Nat → Bool
  f2i : IntKind → Nat → Int
  fo : Ordering → Nat → Nat → Bool
  faOk : BinOp → Nat → Nat → Bool
  fa : BinOp → Nat → Nat → Nat
  rd : FuncId → Bool
/-- What is handed to a function and comes from it. -/
inductive Par where
  | v (t : Ty) | op | read (t : Ty) (e : TypeId) | own (t : Ty) (e : TypeId) | pt (t : Ty) (e : TypeId)
@[reducible] def Par.den : Par → Type
  | .v t => t.den | .op => Unit | .read t _ => List t.den | .own t _ => List t.den | .pt t _ => t.den
@[reducible] def argL : List Par → Type
  | [] => Unit | p :: l => p.den × argL l
inductive RTy where
  | v (t : Ty) | sl (t : Ty) (e : TypeId) | pt (t : Ty) (e : TypeId)
@[reducible] def RTy.den : RTy → Type
  | .v t => t.den | .sl t _ => List t.den | .pt t _ => t.den
@[reducible] def retL : List RTy → Type
  | [] => Unit | [t] => t.den | t :: l => t.den × retL l
structure Sig where
  ps : List Par
  rs : List RTy
/-- A function to which no row is given away, and which gives back one row. -/
def noOwn : List Par → Bool
  | [] => true
  | .own _ _ :: _ => false
  | _ :: l => noOwn l
def oneSl : List RTy → Bool
  | [.sl _ _] => true
  | _ => false
def rdSig (g : Sig) : Bool := noOwn g.ps && oneSl g.rs
/-- 'copy': the list behind it. -/
def cpL {α : Type} (xs ys : List α) (lo n : Nat) : List α := xs.take lo ++ ys.take (Nat.min ys.length n) ++ xs.drop (lo + Nat.min ys.length n)
def nth (t : Ty) (xs : List t.den) (i : Int) : t.den := xs.getD i.toNat t.zero
section
/-- Equality of parts. -/
def eqB (T : Tab) : (t : Ty) → t.den → t.den → Option Bool
  | .int _, x, y => some (T.eqI x y)
  | .bool, x, y => some (x == y)
  | .str, x, y => some (T.eqS x y)
  | _, _, _ => none
def eqF (T : Tab) : (t : Ty) → t.den → t.den → Option Bool
  | .one a, x, y => eqB T a x y
  | .pair a b, x, y => (match eqB T a x.1 y.1, eqF T b x.2 y.2 with
    | some c, some d => some (c && d)
    | _, _ => none)
  | _, _, _ => none
variable (T : Tab) (sg : FuncId → Sig) (callF : (f : FuncId) → argL (sg f).ps → Option (retL (sg f).rs)) {R : Type}
def constV (ty : TypeId) : Value → Option AV
  | .int k n => some (.v (.int k) n)
  | .bool b => some (.v .bool b)
  | .string s => some (.v .str s)
  | .float .f64 n => some (.v .flt n)
  | .slice none 0 0 => (match T.sl ty with
    | some (t, e) => some (.nilS t e)
    | none => (match T.ty ty with
      | some .nils => some (.v .nils ())
      | _ => none))
  | .pointer none => some .nilP
  | .nilIface => (match T.ty ty with
    | some .nile => some (.v .nile ())
    | _ => none)
  | _ => none
def opd (g : Nat → Option AV) (ty : TypeId) : Operand → Option AV
  | .tmp t => g t
  | .const v => constV T ty v
  | _ => none
def cmpI (o : BinOp) (x y : Int) : Option Bool := match o with
  | .eql => some (T.eqI x y) | .neq => some (!T.eqI x y) | .lss => some (T.lt x y) | .leq => some (T.le x y) | .gtr => some (T.lt y x) | .geq => some (T.le y x)
  | _ => none
def bitI (o : BinOp) (k : IntKind) (x y : Int) : Option Int := match o with
  | .and => some (k.wrap (BitVec.ofInt k.bits x &&& BitVec.ofInt k.bits y).toNat)
  | .or => some (k.wrap (BitVec.ofInt k.bits x ||| BitVec.ofInt k.bits y).toNat)
  | .xor => some (k.wrap (BitVec.ofInt k.bits x ^^^ BitVec.ofInt k.bits y).toNat)
  | .andNot => some (k.wrap (BitVec.ofInt k.bits x &&& ~~~BitVec.ofInt k.bits y).toNat)
  | _ => none
def arI (o : BinOp) (k : IntKind) (x y : Int) : Option Int := match o with
  | .add => some (k.wrap (x + y)) | .sub => some (k.wrap (x - y)) | .mul => some (k.wrap (x * y))
  | _ => none
def divI (o : BinOp) (k : IntKind) (x y : Int) : Option Int := match o with
  | .quo => some (k.wrap (x.tdiv y)) | .rem => some (x.tmod y)
  | _ => none
def shI (o : BinOp) (k : IntKind) (x y : Int) : Option Int := match o with
  | .shl => some (k.wrap (x * 2 ^ min y.toNat k.bits)) | .shr => some (x.fdiv (2 ^ min y.toNat k.bits))
  | _ => none
def cmpFl (o : BinOp) (x y : Nat) : Option Bool := match o with
  | .eql => some (T.fo .eq x y) | .neq => some (!T.fo .eq x y) | .lss => some (T.fo .lt x y) | .leq => some (T.fo .lt x y || T.fo .eq x y) | .gtr => some (T.fo .gt x y) | .geq => some (T.fo .gt x y || T.fo .eq x y)
  | _ => none
def cmpS (o : BinOp) (x y : ByteArray) : Option Bool := match o with
  | .eql => some (T.eqS x y) | .neq => some (!T.eqS x y)
  | .lss => some (Op.bytesLess x.toList y.toList) | .leq => some (Op.bytesLess x.toList y.toList || T.eqS x y)
  | .gtr => some (!(Op.bytesLess x.toList y.toList || T.eqS x y)) | .geq => some (!Op.bytesLess x.toList y.toList)
  | _ => none
def isC : Operand → Bool
  | .const _ => true
  | _ => false
def binV (nc : Bool) (xt : TypeId) (o : BinOp) (a b : AV) (K : AV → Option R) : Option R :=
  match a, b with
  | .v (.int k) x, .v (.int j) y => (match shI o k x y with
    | some n => chk (T.le 0 y) (K (.v (.int k) n))
    | none => bif kbeq k j then (match cmpI T o x y with
      | some c => K (.v .bool c)
      | none => match arI o k x y with
        | some n => K (.v (.int k) n)
        | none => match divI o k x y with
          | some n => chk (!T.eqI y 0) (K (.v (.int k) n))
          | none => match bitI o k x y with
            | some n => K (.v (.int k) n)
            | none => none) else none)
  | .v .str x, .v .str y => (match cmpS T o x y with
      | some c => K (.v .bool c)
      | none => match o with
        | .add => chk (T.nle (ByteArray.size x + ByteArray.size y) 9223372036854775807) (K (.v .str (ByteArray.append x y)))
        | _ => none)
  | .v .bool x, .v .bool y => (match T.ty xt, o with
      | some .bool, .eql => K (.v .bool (x == y))
      | some .bool, .neq => K (.v .bool (!(x == y)))
      | _, _ => none)
  | .v .flt x, .v .flt y => (match cmpFl T o x y with
      | some c => K (.v .bool c)
      | none => chk (T.faOk o x y) (K (.v .flt (T.fa o x y))))
  | .v .nils _, .v .nils _ => (match T.ty xt, o with
      | some .nils, .eql => K (.v .bool true)
      | some .nils, .neq => K (.v .bool false)
      | _, _ => none)
  | .v .nile _, .v .nile _ => (match T.ty xt, nc, o with
      | some .nile, true, .eql => K (.v .bool true)
      | some .nile, true, .neq => K (.v .bool false)
      | _, _, _ => none)
  | .v t x, .v s y => (match T.ty xt, cast? (F := Ty.den) s t y with
    | some u, some z => bif T.eq xt && Ty.beq u t then (match eqF T t x z with
      | some c => (match o with
        | .eql => K (.v .bool c)
        | .neq => K (.v .bool (!c))
        | _ => none)
      | none => none) else none
    | _, _ => none)
  | _, _ => none
variable (g : Nat → Option AV) (rw : RW)
def lenOf : AV → Option Int
  | .sl r => (match row rw r with
    | some w => some (w.xs.length : Int)
    | none => none)
  | .cut _ _ lo hi => some (hi - lo)
  | .nilS _ _ => some 0
  | _ => none
/-- The list that a slice tells. -/
def listOf : AV → Option Row
  | .sl r => row rw r
  | .cut r _ lo hi => (match row rw r with
    | some w => some ⟨w.t, w.e, false, (w.xs.drop lo.toNat).take (hi.toNat - lo.toNat)⟩
    | none => none)
  | .nilS t e => some ⟨t, e, false, []⟩
  | _ => none
/-- What is appended: a list, or the bytes of a text. -/
def appOf (t t' e : TypeId) : AV → Option Row
  | .v .str s => (match T.ty t' with
    | some .str => some ⟨.int .u8, e, false, bytesI s⟩
    | _ => none)
  | b => bif Nat.beq t t' then listOf rw b else none
def toDen (t : Ty) : AV → Option t.den
  | .v s x => cast? (F := Ty.den) s t x
  | _ => none
def opdDen (t : Ty) (x : Operand) : Option t.den := match opd T g 0 x with
  | some v => toDen t v
  | none => none
/-- A struct of its parts; what is not named is zero. -/
def buildT (t : Ty) : List (Nat × Operand) → t.den → Option t.den
  | [], x => some x
  | (j, o) :: ps, x => (match opd T g 0 o with
    | some (.v s y) => (match t.put j x s y with
      | some z => buildT t ps z
      | none => none)
    | _ => none)
def elems (t : Ty) : Nat → List (Nat × Operand) → Option (List t.den)
  | _, [] => some []
  | n, (m, x) :: l => bif Nat.beq m n then (match opdDen T g t x, elems t (n + 1) l with
      | some y, some ys => some (y :: ys)
      | _, _ => none) else none
/-- An argument and the row that is given away. -/
def toArg (p : Par) (x : Operand) : Option (p.den × Upd) := match p with
  | .v t => (match opdDen T g t x with
    | some y => some (y, [])
    | none => none)
  | .op => some ((), [])
  | .pt t e => (match opd T g 0 x with
    | some (.ptr r i) => (match row rw r with
      | some w => bif Nat.beq w.e e then (match cast? (F := fun t => List t.den) w.t t w.xs with
        | some xs => some (nth t xs i, [])
        | none => none) else none
      | none => none)
    | _ => none)
  | .read t e => (match x with
    | .const (.slice none 0 0) => some ([], [])
    | x => match opd T g 0 x with
      | some a => (match listOf rw a with
        | some w => bif Nat.beq w.e e then (match cast? (F := fun t => List t.den) w.t t w.xs with
          | some xs => some (xs, [])
          | none => none) else none
        | none => none)
      | none => none)
  | .own t e => (match x with
    | .const (.slice none 0 0) => some ([], [])
    | x => match opd T g 0 x with
      | some (.sl r) => (match row rw r with
        | some w => bif w.own then bif Nat.beq w.e e then (match cast? (F := fun t => List t.den) w.t t w.xs with
          | some xs => some (xs, [(r, none)])
          | none => none) else none else none
        | none => none)
      | some (.nilS _ _) => some ([], [])
      | _ => none)
def mem (n : Nat) : List Nat → Bool
  | [] => false
  | m :: l => bif Nat.beq m n then true else mem n l
def given : Upd → List Nat
  | [] => []
  | (n, _) :: l => n :: given l
/-- The row that an argument tells of, if one. -/
def argRow (x : Operand) : List Nat := match x with
  | .tmp t => (match g t with
    | some (.sl r) => [r]
    | some (.cut r _ _ _) => [r]
    | some (.ptr r _) => [r]
    | _ => [])
  | _ => []
def disj : List Nat → List Nat → Bool
  | [], _ => true
  | n :: l, m => bif mem n m then false else disj l m
/-- The arguments, and the rows that are given away; no row that is given away is told of twice. -/
def toArgs : (ps : List Par) → List Operand → Option (argL ps × Upd × List Nat)
  | [], [] => some ((), [], [])
  | p :: ps, x :: l => (match toArg T g rw p x, toArgs ps l with
    | some (y, us), some (ys, vs, rs) => bif disj (given us) rs && disj (argRow g x) (given vs) then some ((y, ys), us ++ vs, argRow g x ++ rs) else none
    | _, _ => none)
  | _, _ => none
/-- A row that is new gets a name that was never used. -/
def isNew (d : Nat) : Bool := match rw d with
  | none => true
  | some _ => false
/-- The results of a call: parts; the rows are named from n on. -/
def parts (n : Nat) : (l : List RTy) → retL l → List AC × Upd
  | [], _ => ([], [])
  | [.v t], x => ([.v t x], [])
  | [.sl t e], x => ([.sl n], [(n, some ⟨t, e, true, x⟩)])
  | [.pt t e], x => ([.pt n], [(n, some ⟨t, e, true, [x]⟩)])
  | .v t :: r :: l, x => (match parts n (r :: l) x.2 with
    | (cs, us) => (.v t x.1 :: cs, us))
  | .sl t e :: r :: l, x => (match parts (n + 100000) (r :: l) x.2 with
    | (cs, us) => (.sl n :: cs, (n, some ⟨t, e, true, x.1⟩) :: us))
  | .pt t e :: r :: l, x => (match parts (n + 100000) (r :: l) x.2 with
    | (cs, us) => (.pt n :: cs, (n, some ⟨t, e, true, [x.1]⟩) :: us))
def allNew (rw : RW) : Upd → Bool
  | [] => true
  | (n, _) :: l => isNew rw n && allNew rw l
def resOf (l : List AC) : AV := match l with
  | [.v t x] => .v t x
  | [.sl r] => .sl r
  | [.pt r] => .ptr r 0
  | l => .tup l
def intOf : AV → Option Int
  | .v (.int _) n => some n
  | _ => none
def opdInt (x : Operand) : Option Int := match opd T g 0 x with
  | some v => intOf v
  | none => none
def loOf (x : Option Operand) : Option Int := match x with
  | some l => opdInt T g l
  | none => some 0
def zeroLo (x : Option Operand) : Bool := match x with
  | none => true
  | some (.const (.int _ 0)) => true
  | _ => false
def hiOf (x : Option Operand) (n : Int) : Option Int := match x with
  | some l => opdInt T g l
  | none => some n
def maxI (k : IntKind) (x : Int) : List Operand → Option Int
  | [] => some x
  | o :: l => (match opd T g 0 o with
    | some (.v (.int j) y) => bif kbeq k j then maxI k (bif T.lt x y then y else x) l else none
    | _ => none)
def minI (k : IntKind) (x : Int) : List Operand → Option Int
  | [] => some x
  | o :: l => (match opd T g 0 o with
    | some (.v (.int j) y) => bif kbeq k j then minI k (bif T.lt y x then y else x) l else none
    | _ => none)
/-- One operation, its place named d: its value and what becomes of the rows, handed on. -/
def oper (d : Nat) (o : Oper) (K : AV → Upd → Option R) : Option R :=
  match o.op with
  | .move x | .assign x => (match opd T g o.type x with
    | some a => K a []
    | none => none)
  | .pick c a b => (match opd T g 0 c, opd T g o.type a, opd T g o.type b with
    | some (.v .bool c), some a, some b => br c (K a []) (K b [])
    | _, _, _ => none)
  | .binOp op xt x y _ => (match opd T g xt x, opd T g xt y with
    | some a, some b => binV T (isC x || isC y) xt op a b (fun v => K v [])
    | _, _ => none)
  | .unOp op _ x => (match op, opd T g 0 x with
    | .not, some (.v .bool b) => K (.v .bool (!b)) []
    | .neg, some (.v (.int k) n) => K (.v (.int k) (k.wrap (0 - n))) []
    | _, _ => none)
  | .build t ps => (match T.ty t with
    | some ty => (match (bif ty.isStruct then buildT T g ty ps.toList ty.zero else none) with
      | some x => K (.v ty x) []
      | none => none)
    | none => none)
  | .buildSlice t n ps => (match T.sl t with
    | some (ty, e) => (match elems T g ty 0 ps.toList with
      | some xs => bif Nat.beq xs.length n && isNew rw d && Nat.ble (n * ty.sz) 100000 then K (.sl d) [(d, some ⟨ty, e, true, xs⟩)] else none
      | none => none)
    | none => none)
  | .box e x => (match T.ty e, opd T g 0 x with
    | some ty, some (.v t y) => bif Ty.beq ty t && isNew rw d then K (.ptr d 0) [(d, some ⟨t, e, true, [y]⟩)] else none
    | _, _ => none)
  | .alloc e => (match T.ty e with
    | some ty => bif isNew rw d then K (.ptr d 0) [(d, some ⟨ty, e, true, [ty.zero]⟩)] else none
    | none => none)
  | .nilCheck x => (match opd T g 0 x with
    | some (.ptr r i) => K (.ptr r i) []
    | some (.fptr r i j) => K (.fptr r i j) []
    | _ => none)
  | .indexAddr t x i => (match T.sl t, opd T g 0 x, opdInt T g i with
    | some (ty, e), some a, some i => (match a with
      | .sl r => (match row rw r with
        | some w => bif Ty.beq ty w.t then chk (T.le 0 i) (chk (T.lt i (w.xs.length : Int)) (K (.ptr r i) [])) else none
        | none => none)
      | .cut r _ lo hi => (match row rw r with
        | some w => bif Ty.beq ty w.t then chk (T.le 0 i) (chk (T.lt i (hi - lo)) (K (.ptr r (lo + i)) [])) else none
        | none => none)
      | _ => none)
    | _, _, _ => none)
  | .index t x i => (match T.ty t, opd T g 0 x, opdInt T g i with
    | some .str, some (.v .str s), some i => chk (T.le 0 i) (chk (T.lt i (ByteArray.size s : Int)) (K (.v (.int .u8) (bt s i)) []))
    | _, _, _ => none)
  | .fieldAddr s x j => (match T.ty s, opd T g 0 x with
    | some ty, some (.ptr r i) => (match row rw r with
      | some w => bif Ty.beq ty w.t then (match ty.fld j with
        | some _ => K (.fptr r i j) []
        | none => none) else none
      | none => none)
    | _, _ => none)
  | .field s x j => (match T.ty s, opd T g 0 x with
    | some ty, some (.v t x) => bif Ty.beq ty t then (match t.fld j with
      | some _ => K (.v (t.get j x).1 (t.get j x).2) []
      | none => none) else none
    | _, _ => none)
  | .load s x => (match T.ty s, opd T g 0 x with
    | some ty, some (.ptr r i) => (match row rw r with
      | some w => bif Ty.beq ty w.t then K (.v w.t (nth w.t w.xs i)) [] else none
      | none => none)
    | some ty, some (.fptr r i j) => (match row rw r with
      | some w => bif Ty.beq ty (w.t.get j (nth w.t w.xs i)).1 then K (.v (w.t.get j (nth w.t w.xs i)).1 (w.t.get j (nth w.t w.xs i)).2) [] else none
      | none => none)
    | _, _ => none)
  | .store s x y => (match T.ty s, opd T g 0 x, opd T g 0 y with
    | some ty, some (.ptr r i), some (.v s v) => (match row rw r with
      | some w => bif w.own && Ty.beq ty w.t then (match cast? (F := Ty.den) s w.t v with
        | some y => K .u [(r, some ⟨w.t, w.e, true, w.xs.set i.toNat y⟩)]
        | none => none) else none
      | none => none)
    | some ty, some (.fptr r i j), some (.v s v) => (match row rw r with
      | some w => bif w.own && Ty.beq ty s then (match w.t.put j (nth w.t w.xs i) s v with
        | some y => K .u [(r, some ⟨w.t, w.e, true, w.xs.set i.toNat y⟩)]
        | none => none) else none
      | none => none)
    | _, _, _ => none)
  | .slice t x xlo hi none => (match opd T g 0 x, loOf T g xlo with
    | some (.v .str s), some lo => (match T.ty t, hiOf T g hi (ByteArray.size s : Int) with
      | some .str, some hi => chk (T.le 0 lo) (chk (T.le lo hi) (chk (T.le hi (ByteArray.size s : Int)) (K (.v .str (ByteArray.extract s (Int.toNat lo) (Int.toNat hi))) [])))
      | _, _ => none)
    | some (.sl r), some lo => (match T.sl t, row rw r with
      | some (ty, _), some w => (match hiOf T g hi (w.xs.length : Int) with
        | some hi => bif Ty.beq ty w.t then chk (T.le 0 lo) (chk (T.le lo hi) (chk (T.le hi (w.xs.length : Int)) (K (.cut r (zeroLo xlo) lo hi) []))) else none
        | none => none)
      | _, _ => none)
    | some (.cut r p l0 h0), some lo => (match T.sl t, row rw r with
      | some (ty, _), some w => (match hiOf T g hi (h0 - l0) with
        | some hi => bif Ty.beq ty w.t then chk (T.le 0 lo) (chk (T.le lo hi) (chk (T.le hi (h0 - l0)) (K (.cut r (p && zeroLo xlo) (l0 + lo) (l0 + hi)) []))) else none
        | none => none)
      | _, _ => none)
    | _, _ => none)
  | .convert src dst x => (match opd T g 0 x with
    | some (.v .str x) => (match T.ty src, T.sl dst with
      | some .str, some (.int .i32, e) => bif isNew rw d then chk (T.nle (runesI x).length 70368744177664) (K (.sl d) [(d, some ⟨.int .i32, e, true, runesI x⟩)]) else none
      | some .str, some (.int .u8, e) => bif isNew rw d then K (.sl d) [(d, some ⟨.int .u8, e, false, bytesI x⟩)] else none
      | _, _ => none)
    | some (.v (.int _) x) => (match T.ty src, T.ty dst with
      | some (.int _), some (.int k) => K (.v (.int k) (k.wrap x)) []
      | some (.int _), some .flt => K (.v .flt (T.i2f x)) []
      | _, _ => none)
    | some (.v .flt x) => (match T.ty src, T.ty dst with
      | some .flt, some (.int k) => chk (T.f2iOk k x) (K (.v (.int k) (T.f2i k x)) [])
      | _, _ => none)
    | some a => (match T.ty src, T.sl src, T.ty dst, listOf rw a with
      | none, some (.int .i32, _), some .str, some ⟨.int .i32, _, _, xs⟩ => K (.v .str (strOfRunes xs)) []
      | none, some (.int .u8, _), some .str, some ⟨.int .u8, _, _, xs⟩ => K (.v .str (strOfBytes xs)) []
      | none, some (.int .u8, _), none, some ⟨.int .u8, e', true, y :: xs⟩ => (match a with
        | .sl r => bif Nat.beq src dst then K (.sl r) [(r, some ⟨.int .u8, e', false, y :: xs⟩)] else none
        | _ => none)
      | _, _, _, _ => none)
    | none => none)
  | .extract x j => (match opd T g 0 x with
    | some (.tup l) => (match l[j]? with
      | some (.v t x) => K (.v t x) []
      | some (.sl r) => K (.sl r) []
      | some (.pt r) => K (.ptr r 0) []
      | none => none)
    | _ => none)
  | .call { callee := .builtin .len, args, argTypes } => (match args.toList, argTypes.toList with
    | [x], [t] => (match opd T g 0 x with
      | some (.v .str s) => (match T.ty t with
        | some .str => K (.v (.int .i64) (ByteArray.size s : Int)) []
        | _ => none)
      | some a => (match T.sl t, lenOf rw a with
        | some _, some n => K (.v (.int .i64) n) []
        | _, _ => none)
      | none => none)
    | _, _ => none)
  | .call { callee := .builtin .append, args, argTypes } => (match args.toList, argTypes.toList with
    | [x, y], [t, t'] => (match opd T g t x, opd T g t y, T.sl t with
      | some a, some b, some (ty, e) => bif isNew rw d then (match appOf T rw t t' e b with
        | some w => (match cast? (F := fun t => List t.den) w.t ty w.xs with
          | some ys => (match a with
            | .sl r => (match row rw r with
              | some u => bif u.own && Nat.beq u.e e then (match cast? (F := fun t => List t.den) u.t ty u.xs with
                | some xs => chk (T.lt ((xs.length : Int) + (ys.length : Int)) 1000000000000) (K (.sl d) [(r, none), (d, some ⟨ty, e, true, xs ++ ys⟩)])
                | none => none) else none
              | none => none)
            | .cut r _ lo hi => (match row rw r with
              | some u => bif u.own && Nat.beq u.e e then chk (T.eqI lo 0) (match cast? (F := fun t => List t.den) u.t ty u.xs with
                | some xs => chk (T.lt ((hi : Int) + (ys.length : Int)) 1000000000000) (K (.sl d) [(r, none), (d, some ⟨ty, e, true, xs.take hi.toNat ++ ys⟩)])
                | none => none) else none
              | none => none)
            | .nilS _ _ => chk (T.lt (ys.length : Int) 1000000000000) (K (.sl d) [(d, some ⟨ty, e, true, ys⟩)])
            | _ => none)
          | none => none)
        | none => none) else none
      | _, _, _ => none)
    | _, _ => none)
  | .call { callee := .builtin .copy, args, argTypes } => (match args.toList, argTypes.toList with
    | [x, y], [t, _] => (match opd T g t x, opd T g t y, T.sl t with
      | some a, some b, some (ty, e) => (match listOf rw b with
        | some w => (match cast? (F := fun t => List t.den) w.t ty w.xs with
          | some ys => (match a with
            | .sl r => (match row rw r with
              | some u => bif u.own && Nat.beq u.e e then (match cast? (F := fun t => List t.den) u.t ty u.xs with
                | some xs => K (.v (.int .i64) (Nat.min ys.length xs.length : Int)) [(r, some ⟨ty, e, true, cpL xs ys 0 xs.length⟩)]
                | none => none) else none
              | none => none)
            | .cut r _ lo hi => (match row rw r with
              | some u => bif u.own && Nat.beq u.e e then (match cast? (F := fun t => List t.den) u.t ty u.xs with
                | some xs => K (.v (.int .i64) (Nat.min ys.length (Int.toNat (hi - lo)) : Int)) [(r, some ⟨ty, e, true, cpL xs ys lo.toNat (Int.toNat (hi - lo))⟩)]
                | none => none) else none
              | none => none)
            | _ => none)
          | none => none)
        | none => none)
      | _, _, _ => none)
    | _, _ => none)
  | .call { callee := .value (.func f), args, argTypes := _ } => bif !T.rd f || rdSig (sg f) then (match toArgs T g rw (sg f).ps args.toList with
    | some (ds, us, _) => (callF f ds).bind fun r => (match parts d (sg f).rs r with
      | (cs, vs) => bif allNew rw vs then K (resOf cs) (us ++ vs) else none)
    | none => none) else none
  | .makeSlice t l c => (match T.sl t, opdInt T g l, opdInt T g c with
    | some (ty, e), some l, some c => bif isNew rw d then chk (T.le 0 l) (chk (T.le l c) (chk (T.lt c 1000000000000) (K (.sl d) [(d, some ⟨ty, e, true, List.replicate l.toNat ty.zero⟩)]))) else none
    | _, _, _ => none)
  | .call { callee := .builtin .max, args, argTypes := _ } => (match args.toList with
    | x :: l => (match opd T g 0 x with
      | some (.v (.int k) x) => (match maxI T g k x l with
        | some n => K (.v (.int k) n) []
        | none => none)
      | _ => none)
    | _ => none)
  | .call { callee := .builtin .min, args, argTypes := _ } => (match args.toList with
    | x :: l => (match opd T g 0 x with
      | some (.v (.int k) x) => (match minI T g k x l with
        | some n => K (.v (.int k) n) []
        | none => none)
      | _ => none)
    | _ => none)
  | _ => none
end
end Go.Ev

/- Cells of typed values. -/
namespace Go.Ev
theorem Ty.cells_length : ∀ (t : Ty) (x : t.den), (t.cells x).length = t.sz
  | .int _, _ => rfl
  | .bool, _ => rfl
  | .str, _ => rfl
  | .flt, _ => rfl
  | .nils, _ => rfl
  | .nile, _ => rfl
  | .one a, x => a.cells_length x
  | .pair a b, x => by
    show (a.cells x.1 ++ b.cells x.2).length = a.sz + b.sz
    rw [List.length_append, a.cells_length, b.cells_length]
theorem Ty.sz_pos : ∀ (t : Ty), 0 < t.sz
  | .int _ => Nat.one_pos
  | .bool => Nat.one_pos
  | .str => Nat.one_pos
  | .flt => Nat.one_pos
  | .nils => Nat.one_pos
  | .nile => Nat.one_pos
  | .one a => a.sz_pos
  | .pair a b => Nat.lt_of_lt_of_le a.sz_pos (Nat.le_add_right _ _)
theorem Ty.cells_one : ∀ (t : Ty) (x : t.den), ∀ u ∈ t.cells x, u.oneCell' = true
  | .int _, _, u, h => by rw [List.mem_singleton.1 h]; rfl
  | .bool, _, u, h => by rw [List.mem_singleton.1 h]; rfl
  | .str, _, u, h => by rw [List.mem_singleton.1 h]; rfl
  | .flt, _, u, h => by rw [List.mem_singleton.1 h]; rfl
  | .nils, _, u, h => by rw [List.mem_singleton.1 h]; rfl
  | .nile, _, u, h => by rw [List.mem_singleton.1 h]; rfl
  | .one a, x, u, h => a.cells_one x u h
  | .pair a b, x, u, h => by
    rcases List.mem_append.1 h with h | h
    · exact a.cells_one x.1 u h
    · exact b.cells_one x.2 u h
theorem Ty.val_cells : ∀ (t : Ty) (x : t.den), (t.val x).cells = (t.cells x).toArray
  | .int _, _ => rfl
  | .bool, _ => rfl
  | .str, _ => rfl
  | .flt, _ => rfl
  | .nils, _ => rfl
  | .nile, _ => rfl
  | .one _, _ => rfl
  | .pair _ _, _ => rfl
theorem Ty.val_struct : ∀ (t : Ty) (x : t.den), t.isStruct = true → t.val x = .agg (t.cells x).toArray
  | .int _, _, h => by cases h
  | .bool, _, h => by cases h
  | .str, _, h => by cases h
  | .flt, _, h => by cases h
  | .nils, _, h => by cases h
  | .nile, _, h => by cases h
  | .one _, _, _ => rfl
  | .pair _ _, _, _ => rfl
theorem Ty.cells_basic : ∀ (t : Ty) (x : t.den), t.isStruct = false → t.cells x = [t.val x]
  | .int _, _, _ => rfl
  | .bool, _, _ => rfl
  | .str, _, _ => rfl
  | .flt, _, _ => rfl
  | .nils, _, _ => rfl
  | .nile, _, _ => rfl
  | .one _, _, h => by cases h
  | .pair _ _, _, h => by cases h
theorem Ty.fld_get : ∀ (t : Ty) (j : Nat) (x : t.den) (s : Ty), t.fld j = some s → (t.get j x).1 = s
  | .int _, _, _, _, h => by cases h
  | .bool, _, _, _, h => by cases h
  | .str, _, _, _, h => by cases h
  | .flt, _, _, _, h => by cases h
  | .nils, _, _, _, h => by cases h
  | .nile, _, _, _, h => by cases h
  | .one a, 0, x, s, h => by cases h; rfl
  | .one a, j + 1, x, s, h => by cases h
  | .pair a b, 0, x, s, h => by cases h; rfl
  | .pair a b, j + 1, x, s, h => b.fld_get j x.2 s h
theorem Ty.off_sz : ∀ (t : Ty) (j : Nat) (s : Ty), t.fld j = some s → t.off j + s.sz ≤ t.sz
  | .int _, _, _, h => by cases h
  | .bool, _, _, h => by cases h
  | .str, _, _, h => by cases h
  | .flt, _, _, h => by cases h
  | .one a, 0, s, h => by cases h; show 0 + _ ≤ _; rw [Nat.zero_add]; exact Nat.le_refl _
  | .one a, j + 1, s, h => by cases h
  | .pair a b, 0, s, h => by cases h; show 0 + a.sz ≤ a.sz + b.sz; omega
  | .pair a b, j + 1, s, h => by
    have := b.off_sz j s h
    show a.sz + b.off j + s.sz ≤ a.sz + b.sz
    omega
theorem Ty.get_cells : ∀ (t : Ty) (j : Nat) (x : t.den) (s : Ty), t.fld j = some s → (t.get j x).1.cells (t.get j x).2 = ((t.cells x).drop (t.off j)).take s.sz
  | .int _, _, _, _, h => by cases h
  | .bool, _, _, _, h => by cases h
  | .str, _, _, _, h => by cases h
  | .flt, _, _, _, h => by cases h
  | .nils, _, _, _, h => by cases h
  | .nile, _, _, _, h => by cases h
  | .one a, 0, x, s, h => by
    cases h
    show a.cells x = ((a.cells x).drop 0).take a.sz
    rw [List.drop_zero, ← a.cells_length x, List.take_length]
  | .one a, j + 1, x, s, h => by cases h
  | .pair a b, 0, x, s, h => by
    cases h
    show a.cells x.1 = ((a.cells x.1 ++ b.cells x.2).drop 0).take a.sz
    rw [List.drop_zero, ← a.cells_length x.1, List.take_left']
    rfl
  | .pair a b, j + 1, x, s, h => by
    show (b.get j x.2).1.cells (b.get j x.2).2 = ((a.cells x.1 ++ b.cells x.2).drop (a.sz + b.off j)).take s.sz
    rw [b.get_cells j x.2 s h, ← a.cells_length x.1, ← List.drop_drop, List.drop_left']
    rfl
theorem Ty.put_fld : ∀ (t : Ty) (j : Nat) (x : t.den) (s : Ty) (y : s.den) (z : t.den), t.put j x s y = some z → t.fld j = some s
  | .int _, _, _, _, _, _, h => by cases h
  | .bool, _, _, _, _, _, h => by cases h
  | .str, _, _, _, _, _, h => by cases h
  | .flt, _, _, _, _, _, h => by cases h
  | .nils, _, _, _, _, _, h => by cases h
  | .nile, _, _, _, _, _, h => by cases h
  | .one a, 0, x, s, y, z, h => by
    simp only [Ty.put, cast?] at h
    split at h
    · rename_i hb; rw [Ty.beq_eq hb]; rfl
    · cases h
  | .one a, j + 1, x, s, y, z, h => by cases h
  | .pair a b, 0, x, s, y, z, h => by
    simp only [Ty.put, cast?] at h
    split at h
    · rename_i hb
      split at hb
      · rename_i hb'; rw [Ty.beq_eq hb']; rfl
      · cases hb
    · cases h
  | .pair a b, j + 1, x, s, y, z, h => by
    simp only [Ty.put] at h
    split at h
    · rename_i z' hz; exact b.put_fld j x.2 s y z' hz
    · cases h
theorem cast?_eq {F : Ty → Type} {s t : Ty} {x : F s} {y : F t} (h : cast? s t x = some y) : ∃ e : s = t, e ▸ x = y := by
  unfold cast? at h
  split at h
  · rename_i hb
    exact ⟨Ty.beq_eq hb, by injection h⟩
  · cases h
theorem Ty.put_cells : ∀ (t : Ty) (j : Nat) (x : t.den) (s : Ty) (y : s.den) (z : t.den), t.put j x s y = some z →
    t.cells z = (t.cells x).take (t.off j) ++ s.cells y ++ (t.cells x).drop (t.off j + s.sz)
  | .int _, _, _, _, _, _, h => by cases h
  | .bool, _, _, _, _, _, h => by cases h
  | .str, _, _, _, _, _, h => by cases h
  | .flt, _, _, _, _, _, h => by cases h
  | .nils, _, _, _, _, _, h => by cases h
  | .nile, _, _, _, _, _, h => by cases h
  | .one a, 0, x, s, y, z, h => by
    obtain ⟨e, hy⟩ := cast?_eq (F := Ty.den) (show cast? s a y = some z from h)
    subst e
    subst hy
    show s.cells y = (s.cells x).take 0 ++ s.cells y ++ (s.cells x).drop (0 + s.sz)
    rw [List.take_zero, List.nil_append, List.drop_eq_nil_of_le (by rw [s.cells_length]; omega), List.append_nil]
  | .one a, j + 1, x, s, y, z, h => by cases h
  | .pair a b, 0, x, s, y, z, h => by
    simp only [Ty.put] at h
    split at h
    · rename_i z' hb
      obtain ⟨e, hy⟩ := cast?_eq (F := Ty.den) hb
      subst e
      subst hy
      injection h with h
      subst h
      show s.cells y ++ b.cells x.2 = (s.cells x.1 ++ b.cells x.2).take 0 ++ s.cells y ++ (s.cells x.1 ++ b.cells x.2).drop (0 + s.sz)
      rw [List.take_zero, List.nil_append, Nat.zero_add, ← s.cells_length x.1, List.drop_left']
      rfl
    · cases h
  | .pair a b, j + 1, x, s, y, z, h => by
    simp only [Ty.put] at h
    split at h
    · rename_i z' hz
      injection h with h
      subst h
      have ih := b.put_cells j x.2 s y z' hz
      show a.cells x.1 ++ b.cells z' = (a.cells x.1 ++ b.cells x.2).take (a.sz + b.off j) ++ s.cells y ++ (a.cells x.1 ++ b.cells x.2).drop (a.sz + b.off j + s.sz)
      rw [ih, ← a.cells_length x.1, List.take_length_add_append, Nat.add_assoc, List.drop_length_add_append]
      simp [List.append_assoc]
    · cases h
/-! ### lists of elements -/
theorem cellsL_nil (t : Ty) : cellsL t [] = [] := rfl
theorem cellsL_cons (t : Ty) (x : t.den) (xs : List t.den) : cellsL t (x :: xs) = t.cells x ++ cellsL t xs := rfl
theorem cellsL_append (t : Ty) (xs ys : List t.den) : cellsL t (xs ++ ys) = cellsL t xs ++ cellsL t ys := by simp [cellsL]
theorem cellsL_length (t : Ty) : ∀ xs : List t.den, (cellsL t xs).length = xs.length * t.sz
  | [] => by simp [cellsL]
  | x :: xs => by rw [cellsL_cons, List.length_append, t.cells_length, cellsL_length t xs, List.length_cons, Nat.add_mul]; omega
theorem cellsL_one (t : Ty) (xs : List t.den) : ∀ u ∈ cellsL t xs, u.oneCell' = true := by
  intro u hu
  obtain ⟨l, hl, hu⟩ := List.mem_flatten.1 hu
  obtain ⟨x, _, rfl⟩ := List.mem_map.1 hl
  exact t.cells_one x u hu
theorem cellsL_drop (t : Ty) : ∀ (xs : List t.den) (k : Nat), cellsL t (xs.drop k) = (cellsL t xs).drop (k * t.sz)
  | xs, 0 => by simp
  | [], k + 1 => by simp [cellsL]
  | x :: xs, k + 1 => by
    rw [List.drop_succ_cons, cellsL_drop t xs k, cellsL_cons, Nat.add_mul, Nat.one_mul, Nat.add_comm (k * t.sz), ← t.cells_length x, List.drop_length_add_append]
theorem cellsL_take (t : Ty) : ∀ (xs : List t.den) (k : Nat), cellsL t (xs.take k) = (cellsL t xs).take (k * t.sz)
  | xs, 0 => by simp [cellsL]
  | [], k + 1 => by simp [cellsL]
  | x :: xs, k + 1 => by
    rw [List.take_succ_cons, cellsL_cons, cellsL_take t xs k, cellsL_cons, Nat.add_mul, Nat.one_mul, Nat.add_comm (k * t.sz), ← t.cells_length x, List.take_length_add_append]
/-- The cells of an element. -/
theorem cellsL_at (t : Ty) : ∀ (xs : List t.den) (i : Nat) (h : i < xs.length), ((cellsL t xs).drop (i * t.sz)).take t.sz = t.cells (xs[i]'h)
  | [], i, h => by simp at h
  | x :: xs, 0, h => by
    rw [Nat.zero_mul, List.drop_zero, cellsL_cons]
    show (t.cells x ++ cellsL t xs).take t.sz = t.cells x
    rw [← t.cells_length x, List.take_left']
    rfl
  | x :: xs, i + 1, h => by
    rw [cellsL_cons, Nat.add_mul, Nat.one_mul, Nat.add_comm (i * t.sz), ← List.drop_drop]
    have h2 : (t.cells x ++ cellsL t xs).drop t.sz = cellsL t xs := by rw [← t.cells_length x, List.drop_left']; rfl
    rw [h2]
    exact cellsL_at t xs i (by simpa using h)
theorem cellsL_set (t : Ty) : ∀ (xs : List t.den) (i : Nat) (_ : i < xs.length) (y : t.den), cellsL t (xs.set i y) = (cellsL t xs).take (i * t.sz) ++ t.cells y ++ (cellsL t xs).drop (i * t.sz + t.sz)
  | [], i, h, _ => by simp at h
  | x :: xs, 0, h, y => by
    have h2 : (t.cells x ++ cellsL t xs).drop t.sz = cellsL t xs := by rw [← t.cells_length x, List.drop_left']; rfl
    rw [List.set_cons_zero, cellsL_cons, cellsL_cons, Nat.zero_mul, List.take_zero, List.nil_append, Nat.zero_add, h2]
  | x :: xs, i + 1, h, y => by
    rw [List.set_cons_succ, cellsL_cons, cellsL_set t xs i (by simpa using h) y, cellsL_cons]
    rw [show (i + 1) * t.sz = (t.cells x).length + i * t.sz by rw [t.cells_length, Nat.add_mul, Nat.one_mul, Nat.add_comm]]
    rw [List.take_length_add_append, Nat.add_assoc, List.drop_length_add_append]
    simp [List.append_assoc]
theorem nth_eq (t : Ty) (xs : List t.den) (i : Int) (h : i.toNat < xs.length) : nth t xs i = xs[i.toNat]'h := by
  simp [nth, List.getD_eq_getElem?_getD, List.getElem?_eq_getElem h]
end Go.Ev

/- What the states of the evaluator tell of a world. -/
namespace Go.Ev
open Go.RowKit
structure Env where
  sv : Nat → Value
  ty : Nat → Ty
/-- What is asked of the program's types. -/
structure SzOk (P : Program) (n : TypeId) (t : Ty) : Prop where
  info : (P.info? n).map (fun i => (i.zero, i.size, i.bytes)) = some (some (t.val t.zero), t.sz, (((P.info? n).map (·.bytes)).getD 0))
  bytes : ((P.info? n).map (·.bytes)).getD 0 ≤ 140
  agg : ∃ d, P.underlying n = some d ∧ (match d with | .struct _ | .array _ _ => true | _ => false) = t.isStruct
def BasicOk (P : Program) (n : TypeId) : Ty → Prop
  | .int k => P.underlying n = some (.int k)
  | .bool => P.underlying n = some .bool
  | .str => P.underlying n = some .string
  | .flt => P.underlying n = some (.float .f64)
  | .nils => ∃ e, P.underlying n = some (.slice e)
  | .nile => ∃ ms, P.underlying n = some (.interface ms)
  | _ => True
def FieldsOk (P : Program) (fs : Array Field) (t : Ty) : Prop :=
  (∀ j s, t.fld j = some s → ∃ f, fs[j]? = some f ∧ f.offset = t.off j ∧ SzOk P f.type s ∧ (s.isStruct = false → BasicOk P f.type s)) ∧ (∀ j f, fs[j]? = some f → ∃ s, t.fld j = some s)
def UndOk (P : Program) (n : TypeId) : Ty → Prop
  | .int k => P.underlying n = some (.int k)
  | .bool => P.underlying n = some .bool
  | .str => P.underlying n = some .string
  | .flt => P.underlying n = some (.float .f64)
  | .nils => ∃ e, P.underlying n = some (.slice e)
  | .nile => ∃ ms, P.underlying n = some (.interface ms)
  | .one a => ∃ fs, P.underlying n = some (.struct fs) ∧ FieldsOk P fs (.one a)
  | .pair a b => ∃ fs, P.underlying n = some (.struct fs) ∧ FieldsOk P fs (.pair a b)
structure EqOk (P : Program) (n : TypeId) : Prop where
  held : P.stoodInHeld n = false
  guard : P.eqGuardType P.depth n = false
  names : ∀ fs, P.underlying n = some (.struct fs) → ∀ f ∈ fs, f.name ≠ "_"
structure TabOk (P : Program) (T : Tab) : Prop where
  ty : ∀ n t, T.ty n = some t → SzOk P n t ∧ UndOk P n t
  sl : ∀ n t e, T.sl n = some (t, e) → P.underlying n = some (.slice e) ∧ SzOk P e t ∧ UndOk P e t
  eq : ∀ n, T.eq n = true → EqOk P n
  lt : ∀ x y, T.lt x y = decide (x < y)
  le : ∀ x y, T.le x y = decide (x ≤ y)
  eqI : ∀ x y, T.eqI x y = decide (x = y)
  nle : ∀ x y, T.nle x y = decide (x ≤ y)
  eqS : ∀ x y, T.eqS x y = (x.toList == y.toList)
  i2f : ∀ n, T.i2f n = floatOfInt .f64 n
  f2i : ∀ k b, T.f2iOk k b = true → floatToIntVal .f64 b k = some (T.f2i k b)
  fo : ∀ o x y, T.fo o x y = (FloatKind.f64.format.order x y == some o)
  fa : ∀ o x y, T.faOk o x y = true → floatBits o .f64 x y = some (T.fa o x y)
/-- Outside of 'may' the world is as it was. -/
structure Pres (may : Nat → Prop) (w w' : World) : Prop where
  os : w'.os = w.os
  tape : w'.tape = w.tape
  output : w'.output = w.output
  size : w.heap.size ≤ w'.heap.size
  block : ∀ k, k < w.heap.size → ¬ may k → w'.heap[k]? = w.heap[k]?
theorem Pres.refl (may : Nat → Prop) (w : World) : Pres may w w := ⟨rfl, rfl, rfl, Nat.le_refl _, fun _ _ _ => rfl⟩
theorem Pres.trans {may : Nat → Prop} {a b c : World} (h : Pres may a b) (k : Pres may b c) : Pres may a c :=
  ⟨k.os.trans h.os, k.tape.trans h.tape, k.output.trans h.output, Nat.le_trans h.size k.size, fun i hi hm => (k.block i (Nat.lt_of_lt_of_le hi h.size) hm).trans (h.block i hi hm)⟩
theorem Pres.mono {may may' : Nat → Prop} {a b : World} (h : Pres may a b) (hm : ∀ k, k < a.heap.size → may k → may' k) : Pres may' a b :=
  ⟨h.os, h.tape, h.output, h.size, fun i hi hn => h.block i hi (fun hk => hn (hm i hi hk))⟩
theorem Pres.grown {a b : World} {row : Option Nat} (h : a.grownBy b row) : Pres (fun k => some k = row) a b := ⟨h.os, h.tape, h.output, h.size, fun i hi hn => h.block i hi hn⟩
theorem Pres.below {may : Nat → Prop} {B : Nat} {a b : World} (h : Pres may a b) (hB : ∀ k, may k → B ≤ k) (hs : B ≤ a.heap.size) : Below B a b :=
  ⟨h.os, h.tape, h.output, h.size, fun k hk => h.block k (by omega) (fun hm => by have := hB k hm; omega)⟩
structure Ctx where
  P : Program
  T : Tab
  W0 : World
  we : World
  mine : Nat → Prop
structure CtxOk (C : Ctx) : Prop where
  tab : TabOk C.P C.T
  new : ∀ k, C.we.heap.size ≤ k → C.mine k
  base : ∀ k, C.mine k → C.W0.heap.size ≤ k
  below : Below C.W0.heap.size C.W0 C.we
/-- A slice's value whose cells can be read. -/
def ReadV (w : World) (t : Ty) (xs : List t.den) (v : Value) : Prop :=
  ∃ A c, v = .slice A xs.length c ∧ xs.length ≤ c ∧ ∀ j u, (cellsL t xs)[j]? = some u → ∃ ad, A = some ad ∧ w.cell? (ad.add j) = some u
def OwnV (w : World) (t : Ty) (e : TypeId) (xs : List t.den) (v : Value) : Prop := w.ownsRow 0 e t.sz v xs.length (cellsL t xs)
structure RowOk (C : Ctx) (ε : Env) (w : World) (r : Nat) (x : Row) : Prop where
  ty : ε.ty r = x.t
  own : x.own = true → OwnV w x.t x.e x.xs (ε.sv r) ∧ ∀ g, (ε.sv r).ownBlock = some g → C.mine g
  read : ReadV w x.t x.xs (ε.sv r)
structure Mem (C : Ctx) (rw : RW) (ε : Env) (w : World) : Prop where
  ok : ∀ r x, row rw r = some x → RowOk C ε w r x
  sep : ∀ r x r' x', row rw r = some x → x.own = true → row rw r' = some x' → r ≠ r' → (x'.own = true ∨ x'.xs ≠ []) → ∀ g, (ε.sv r).ownBlock = some g → (ε.sv r').ownBlock ≠ some g
  pres : Pres C.mine C.we w
/-- A part of a row: where it lies. -/
def CutOf (ε : Env) (r : Nat) (p : Bool) (lo hi : Int) (V : Value) : Prop :=
  ∃ A n c A' c', ε.sv r = .slice A n c ∧ n ≤ c ∧ V = .slice A' (hi - lo).toNat c' ∧ 0 ≤ lo ∧ lo ≤ hi ∧ hi ≤ n ∧ (hi - lo).toNat ≤ c' ∧
    (lo < hi → ∃ ad, A = some ad ∧ A' = some (ad.add (lo.toNat * (ε.ty r).sz))) ∧ (lo = 0 → A' = A ∧ c' = c) ∧ (p = true → lo = 0)
def toPt : Value → Value
  | .slice A _ _ => .pointer A
  | v => v
def encC (ε : Env) : AC → Value
  | .v t x => t.val x
  | .sl r => ε.sv r
  | .pt r => toPt (ε.sv r)
def ACUsed (rw : RW) (ε : Env) : AC → Prop
  | .v _ _ => True
  | .sl r => rw r ≠ none
  | .pt r => rw r ≠ none ∧ ∃ ad n c, ε.sv r = .slice (some ad) n c ∧ 0 < n
def VRel (rw : RW) (ε : Env) : AV → Value → Prop
  | .v t x, V => V = t.val x
  | .sl r, V => rw r ≠ none ∧ V = ε.sv r
  | .cut r p lo hi, V => rw r ≠ none ∧ CutOf ε r p lo hi V
  | .ptr r i, V => rw r ≠ none ∧ ∃ ad n c, ε.sv r = .slice (some ad) n c ∧ 0 ≤ i ∧ i < n ∧ V = .pointer (some (ad.add (i.toNat * (ε.ty r).sz)))
  | .fptr r i j, V => rw r ≠ none ∧ ∃ ad n c s, ε.sv r = .slice (some ad) n c ∧ 0 ≤ i ∧ i < n ∧ (ε.ty r).fld j = some s ∧ V = .pointer (some (ad.add (i.toNat * (ε.ty r).sz + (ε.ty r).off j)))
  | .op, _ => True
  | .nilS _ _, V => V = .slice none 0 0
  | .nilP, V => V = .pointer none
  | .u, V => V = undef
  | .tup l, V => (∀ c ∈ l, ACUsed rw ε c) ∧ V = .tuple (l.map (encC ε)).toArray
structure Ext (rw : RW) (ε : Env) (rw' : RW) (ε' : Env) : Prop where
  used : ∀ r, rw r ≠ none → rw' r ≠ none
  sv : ∀ r, rw r ≠ none → ε'.sv r = ε.sv r
  ty : ∀ r, rw r ≠ none → ε'.ty r = ε.ty r
theorem Ext.refl (rw : RW) (ε : Env) : Ext rw ε rw ε := ⟨fun _ h => h, fun _ _ => rfl, fun _ _ => rfl⟩
theorem Ext.trans {a : RW} {ε : Env} {b : RW} {ε1 : Env} {c : RW} {ε2 : Env} (h : Ext a ε b ε1) (k : Ext b ε1 c ε2) : Ext a ε c ε2 :=
  ⟨fun r hr => k.used r (h.used r hr), fun r hr => (k.sv r (h.used r hr)).trans (h.sv r hr), fun r hr => (k.ty r (h.used r hr)).trans (h.ty r hr)⟩
theorem VRel.ext {rw rw' : RW} {ε ε' : Env} (h : Ext rw ε rw' ε') : ∀ {av : AV} {V : Value}, VRel rw ε av V → VRel rw' ε' av V
  | .v _ _, _, hv => hv
  | .sl r, _, hv => ⟨h.used r hv.1, hv.2.trans (h.sv r hv.1).symm⟩
  | .cut r p lo hi, _, hv => by
    refine ⟨h.used r hv.1, ?_⟩
    unfold CutOf
    rw [h.sv r hv.1, h.ty r hv.1]
    exact hv.2
  | .ptr r i, _, hv => by
    refine ⟨h.used r hv.1, ?_⟩
    rw [h.sv r hv.1, h.ty r hv.1]
    exact hv.2
  | .fptr r i j, _, hv => by
    refine ⟨h.used r hv.1, ?_⟩
    rw [h.sv r hv.1, h.ty r hv.1]
    exact hv.2
  | .op, _, _ => trivial
  | .nilS _ _, _, hv => hv
  | .nilP, _, hv => hv
  | .u, _, hv => hv
  | .tup l, V, hv => by
    refine ⟨fun c hc => ?_, ?_⟩
    · have := hv.1 c hc
      cases c with
      | v t x => trivial
      | sl r => exact h.used r this
      | pt r =>
        refine ⟨h.used r this.1, ?_⟩
        rw [h.sv r this.1]
        exact this.2
    · rw [hv.2]
      congr 2
      apply List.map_congr_left
      intro c hc
      have := hv.1 c hc
      cases c with
      | v t x => rfl
      | sl r => exact (h.sv r this).symm
      | pt r => exact congrArg toPt (h.sv r this.1).symm
def Slots (rw : RW) (ε : Env) (g : Nat → Option AV) (a : Act) : Prop := ∀ n av, g n = some av → VRel rw ε av (a.tmps.getD n undef)
section
variable {rw : RW} {ε : Env} {g : Nat → Option AV} {a : Act} {T : Tab}
theorem constV_rel {ty : TypeId} {v : Value} {av : AV} (h : constV T ty v = some av) : VRel rw ε av v := by
  unfold constV at h
  split at h
  · cases h; rfl
  · cases h; rfl
  · cases h; rfl
  · cases h; rfl
  · split at h
    · cases h; rfl
    · split at h
      · cases h; rfl
      · cases h
  · cases h; rfl
  · split at h
    · cases h; rfl
    · cases h
  · cases h
theorem opd_rel (hS : Slots rw ε g a) {ty : TypeId} {x : Operand} {av : AV} (h : opd T g ty x = some av) : VRel rw ε av (a.eval x) := by
  cases x with
  | tmp t => exact hS t av h
  | const v => exact constV_rel h
  | global _ => cases h
  | func _ => cases h
theorem opdInt_rel (hS : Slots rw ε g a) {x : Operand} {n : Int} (h : opdInt T g x = some n) : ∃ k, a.eval x = .int k n := by
  unfold opdInt at h
  split at h
  · rename_i v hv
    have hr := opd_rel hS hv
    unfold intOf at h
    split at h
    · rename_i k m
      cases h
      exact ⟨k, hr⟩
    · cases h
  · cases h
end
theorem row_used {rw : RW} {r : Nat} {x : Row} (h : row rw r = some x) : rw r ≠ none := by
  intro h0
  unfold row at h
  rw [h0] at h
  cases h
theorem chk_some {R : Type} {c : Bool} {a : Option R} {r : R} (h : chk c a = some r) : c = true ∧ a = some r := by
  cases c
  · cases h
  · exact ⟨rfl, h⟩
theorem bif_some {R : Type} {c : Bool} {a : Option R} {r : R} (h : (bif c then a else none) = some r) : c = true ∧ a = some r := by
  cases c
  · cases h
  · exact ⟨rfl, h⟩
/-! ### the operations' runs -/
theorem wp_value {P : Program} {o : Oper} {a : Act} {w w' : World} {V : Value} {next : Act → World → Prop} {Q : Exit → Act → World → Prop}
    (h : (execOp a.eval o).run P w = .ok (.value V) w') (hn : next (a.put o.dst V) w') : o.wp P a w next Q := by
  unfold Oper.wp
  rw [h]
  exact hn
theorem wp_skipV {P : Program} {o : Oper} {a : Act} {w w' : World} {next : Act → World → Prop} {Q : Exit → Act → World → Prop}
    (h : (execOp a.eval o).run P w = .ok .skip w') (hn : next (a.put o.dst undef) w') : o.wp P a w next Q := by
  unfold Oper.wp
  rw [h]
  exact hn
theorem info_of {P : Program} {n : TypeId} {t : Ty} (h : SzOk P n t) : ∃ i, P.info? n = some i ∧ i.zero = some (t.val t.zero) ∧ i.size = t.sz ∧ i.bytes ≤ 140 := by
  obtain ⟨i, hi, hzz⟩ := Option.map_eq_some_iff.1 h.info
  simp only [Prod.mk.injEq] at hzz
  obtain ⟨hz, hs, _⟩ := hzz
  have hb := h.bytes
  rw [hi] at hb
  exact ⟨i, hi, hz, hs, hb⟩
theorem run_sizeOf {P : Program} {n : TypeId} {t : Ty} (h : SzOk P n t) (w : World) : (sizeOf n).run P w = .ok t.sz w := by
  obtain ⟨i, hi, _, hs, _⟩ := info_of h
  simp [sizeOf, typeInfo, hi, hs]
theorem run_isAgg {P : Program} {n : TypeId} {t : Ty} (h : SzOk P n t) (w : World) : (isAgg n).run P w = .ok t.isStruct w := by
  obtain ⟨d, hd, ha⟩ := h.agg
  rw [← ha]
  unfold isAgg
  rw [Sem.run_bind, run_underlying hd w]
  cases d <;> rfl
theorem run_loadVar {P : Program} {n : TypeId} {t : Ty} (h : SzOk P n t) (w : World) (ad : Addr) (x : t.den) (hc : ∀ j u, (t.cells x)[j]? = some u → w.cell? (ad.add j) = some u) :
    (loadVar n ad).run P w = .ok (t.val x) w := by
  unfold loadVar
  rw [Sem.run_bind, run_isAgg h w]
  cases hs : t.isStruct with
  | true =>
    have hl := run_loadCells_list (P := P) w ad (t.cells x) hc
    rw [t.cells_length] at hl
    simp [Result.andThen, run_sizeOf h, hl, t.val_struct x hs]
  | false =>
    have h0 := hc 0 (t.val x) (by rw [t.cells_basic x hs]; rfl)
    simp only [Addr.add_zero'] at h0
    simp [Result.andThen, h0]
/-- A row's cells, one after the other. -/
theorem ReadV.at_ {w : World} {t : Ty} {xs : List t.den} {A : Option Addr} {n c : Nat} (h : ReadV w t xs (.slice A n c)) : n = xs.length ∧ n ≤ c ∧ ∀ i : Nat, (hi : i < xs.length) → ∃ ad, A = some ad ∧ ∀ j u, (t.cells (xs[i]'hi))[j]? = some u → w.cell? ((ad.add (i * t.sz)).add j) = some u := by
  obtain ⟨A', c', hv, hc, hr⟩ := h
  injection hv with h1 h2 h3
  subst h1; subst h2; subst h3
  refine ⟨rfl, hc, fun i hi => ?_⟩
  have key : ∀ j u, (t.cells (xs[i]'hi))[j]? = some u → (cellsL t xs)[i * t.sz + j]? = some u := by
    intro j u hu
    rw [← cellsL_at t xs i hi, List.getElem?_take] at hu
    split at hu
    · rw [List.getElem?_drop] at hu
      exact hu
    · cases hu
  obtain ⟨u0, hu0⟩ : ∃ u0, (t.cells (xs[i]'hi))[0]? = some u0 := ⟨_, List.getElem?_eq_getElem (by rw [t.cells_length]; exact t.sz_pos)⟩
  obtain ⟨ad, hA, _⟩ := hr _ _ (key 0 u0 hu0)
  refine ⟨ad, hA, fun j u hu => ?_⟩
  obtain ⟨ad', hA', hc'⟩ := hr _ _ (key j u hu)
  rw [hA] at hA'
  cases hA'
  rw [Addr.add_add]
  exact hc'
theorem own_read {w : World} {t : Ty} {e : TypeId} {xs : List t.den} {v : Value} (h : OwnV w t e xs v) : ReadV w t xs v := by
  rcases h.2 with ⟨rfl, h0⟩ | ⟨g, cap, cur, rfl, hb, hg, hn, hc, hs, ht⟩
  · have : xs = [] := List.eq_nil_of_length_eq_zero h0
    subst this
    exact ⟨none, 0, rfl, Nat.le_refl _, fun j u hu => by simp [cellsL] at hu⟩
  · refine ⟨some ⟨g, 0, none⟩, cap, rfl, hn, fun j u hu => ⟨_, rfl, ?_⟩⟩
    exact World.ownsRow.cells h (g := g) rfl j u hu
theorem own_ltG {w : World} {t : Ty} {e : TypeId} {xs : List t.den} {v : Value} (h : OwnV w t e xs v) (g : Nat) (hg : v.ownBlock = some g) : g < w.heap.size := (World.ownsRow.lt h g hg).2
theorem ReadV.lt {w : World} {t : Ty} {xs : List t.den} {v : Value} (h : ReadV w t xs v) (hx : xs ≠ []) (g : Nat) (hg : v.ownBlock = some g) : g < w.heap.size := by
  obtain ⟨A, c, hv, hc, hr⟩ := h
  subst hv
  cases xs with
  | nil => exact absurd rfl hx
  | cons x xs =>
    obtain ⟨u0, hu0⟩ : ∃ u0, (cellsL t (x :: xs))[0]? = some u0 := ⟨_, List.getElem?_eq_getElem (by rw [cellsL_length]; exact Nat.mul_pos (by simp) t.sz_pos)⟩
    obtain ⟨ad, hA, hcell⟩ := hr 0 u0 hu0
    subst hA
    have : ad.block = g := by simpa [Value.ownBlock] using hg
    subst this
    have := World.block_lt_of_cell? w _ hcell
    rwa [Addr.add_zero'] at this
/-- What is read stays, if its block does. -/
theorem ReadV.move {w w' : World} {t : Ty} {xs : List t.den} {v : Value} (h : ReadV w t xs v) (hm : xs ≠ [] → ∀ g, v.ownBlock = some g → w'.heap[g]? = w.heap[g]?) : ReadV w' t xs v := by
  obtain ⟨A, c, hv, hc, hr⟩ := h
  refine ⟨A, c, hv, hc, fun j u hu => ?_⟩
  obtain ⟨ad, hA, hcell⟩ := hr j u hu
  refine ⟨ad, hA, ?_⟩
  have hx : xs ≠ [] := by
    rintro rfl
    simp [cellsL] at hu
  have hb := hm hx ad.block (by rw [hv, hA]; rfl)
  have hbl : (ad.add j).block = ad.block := by unfold Addr.add; split <;> rfl
  rw [World.cell?_of_block (w := w) (by rw [hbl]; exact hb)]
  exact hcell
theorem OwnV.move {w w' : World} {t : Ty} {e : TypeId} {xs : List t.den} {v : Value} (h : OwnV w t e xs v) (hm : ∀ g, v.ownBlock = some g → w'.heap[g]? = w.heap[g]?) : OwnV w' t e xs v := by
  obtain ⟨h1, h2⟩ := h
  refine ⟨h1, ?_⟩
  rcases h2 with h2 | ⟨g, cap, cur, rfl, hg, hh, r⟩
  · exact .inl h2
  · exact .inr ⟨g, cap, cur, rfl, hg, (hm g rfl).trans hh, r⟩
end Go.Ev

/- Each operation that the evaluator knows does what it says: how memory changes. -/
namespace Go.Ev
open Go.RowKit
section
variable {C : Ctx} {rw rw' : RW} {ε ε' : Env} {w w' : World} {g : Nat → Option AV} {a : Act} {o : Oper}
theorem mem_step (hC : CtxOk C) (hM : Mem C rw ε w) {may : Nat → Prop} (hp : Pres may w w') (hmine : ∀ k, k < w.heap.size → may k → C.mine k) {N : Nat → Prop}
    (hold : ∀ r x, row rw' r = some x → ¬ N r → row rw r = some x ∧ ε'.sv r = ε.sv r ∧ ε'.ty r = ε.ty r ∧ ((x.own = true ∨ x.xs ≠ []) → ∀ g, (ε.sv r).ownBlock = some g → ¬ may g))
    (hnew : ∀ r x, row rw' r = some x → N r → RowOk C ε' w' r x ∧ ∀ g, (ε'.sv r).ownBlock = some g → may g ∨ w.heap.size ≤ g)
    (hsep : ∀ r x r' x', row rw' r = some x → row rw' r' = some x' → N r → N r' → r ≠ r' → ∀ g, (ε'.sv r).ownBlock = some g → (ε'.sv r').ownBlock ≠ some g) : Mem C rw' ε' w' := by
  have lt : ∀ r x, row rw r = some x → (x.own = true ∨ x.xs ≠ []) → ∀ g, (ε.sv r).ownBlock = some g → g < w.heap.size := by
    intro r x hr hx g hg
    have hok := hM.ok r x hr
    rcases hx with hx | hx
    · exact own_ltG (hok.own hx).1 g hg
    · exact hok.read.lt hx g hg
  constructor
  · intro r x hr
    by_cases hN : N r
    · exact (hnew r x hr hN).1
    · obtain ⟨h1, h2, h3, h4⟩ := hold r x hr hN
      have hok := hM.ok r x h1
      have mv : (x.own = true ∨ x.xs ≠ []) → ∀ g, (ε.sv r).ownBlock = some g → w'.heap[g]? = w.heap[g]? := fun hx g hg => hp.block g (lt r x h1 hx g hg) (h4 hx g hg)
      refine ⟨h3.trans hok.ty, fun hx => ?_, ?_⟩
      · rw [h2]
        exact ⟨(hok.own hx).1.move (mv (.inl hx)), (hok.own hx).2⟩
      · rw [h2]
        exact hok.read.move (fun hx => mv (.inr hx))
  · intro r x r' x' hr hx hr' hne hx' g hg
    by_cases hN : N r <;> by_cases hN' : N r'
    · exact hsep r x r' x' hr hr' hN hN' hne g hg
    · obtain ⟨k1, k2, k3, k4⟩ := hold r' x' hr' hN'
      rw [k2]
      intro hg'
      have h1 := lt r' x' k1 hx' g hg'
      have h2 := k4 hx' g hg'
      rcases (hnew r x hr hN).2 g hg with h3 | h3
      · exact h2 h3
      · omega
    · obtain ⟨k1, k2, k3, k4⟩ := hold r x hr hN
      rw [k2] at hg
      intro hg'
      have h1 := lt r x k1 (.inl hx) g hg
      have h2 := k4 (.inl hx) g hg
      rcases (hnew r' x' hr' hN').2 g hg' with h3 | h3
      · exact h2 h3
      · omega
    · obtain ⟨k1, k2, k3, k4⟩ := hold r x hr hN
      obtain ⟨l1, l2, l3, l4⟩ := hold r' x' hr' hN'
      rw [k2] at hg
      rw [l2]
      exact hM.sep r x r' x' k1 hx l1 hne hx' g hg
  · exact hM.pres.trans (hp.mono hmine)
/-- The world has drawn, or has a new block: nothing that was is turned. -/
theorem Mem.move (hC : CtxOk C) (hM : Mem C rw ε w) (hp : Pres (fun _ => False) w w') : Mem C rw ε w' :=
  mem_step hC hM (N := fun _ => False) hp (fun _ _ h => h.elim) (fun r x hr _ => ⟨hr, rfl, rfl, fun _ _ _ h => h⟩) (fun _ _ _ h => h.elim) (fun _ _ _ _ _ _ h => h.elim)
def Env.put (ε : Env) (d : Nat) (V : Value) (t : Ty) : Env := ⟨fun n => if n = d then V else ε.sv n, fun n => if n = d then t else ε.ty n⟩
theorem Env.put_sv_same (ε : Env) (d : Nat) (V : Value) (t : Ty) : (ε.put d V t).sv d = V := by simp [Env.put]
theorem Env.put_ty_same (ε : Env) (d : Nat) (V : Value) (t : Ty) : (ε.put d V t).ty d = t := by simp [Env.put]
theorem Env.put_sv_ne (ε : Env) {d n : Nat} (V : Value) (t : Ty) (h : n ≠ d) : (ε.put d V t).sv n = ε.sv n := by simp [Env.put, h]
theorem Env.put_ty_ne (ε : Env) {d n : Nat} (V : Value) (t : Ty) (h : n ≠ d) : (ε.put d V t).ty n = ε.ty n := by simp [Env.put, h]
theorem row_put_same (rw : RW) (d : Nat) (x : Row) : row (fun m => if m = d then some (some x) else rw m) d = some x := by simp [row]
theorem row_put_ne (rw : RW) {d n : Nat} (x : Option (Option Row)) (h : n ≠ d) : row (fun m => if m = d then x else rw m) n = row rw n := by simp [row, h]
theorem row_kill (rw : RW) (r : Nat) : row (fun m => if m = r then some none else rw m) r = none := by simp [row]
/-- What an operation must lead to. -/
def Good (C : Ctx) (rw : RW) (ε : Env) (a : Act) (w : World) (o : Oper) (v : AV) (us : Upd) : Prop :=
  ∀ (next : Act → World → Prop) (Q : Exit → Act → World → Prop), (∀ V ε' w', VRel (updF rw us) ε' v V → Ext rw ε (updF rw us) ε' → Mem C (updF rw us) ε' w' → next (a.put o.dst V) w') → o.wp C.P a w next Q
theorem good_pure (hM : Mem C rw ε w) {v : AV} {V : Value} (hr : (execOp a.eval o).run C.P w = .ok (.value V) w) (hv : VRel rw ε v V) : Good C rw ε a w o v [] :=
  fun _ _ h => wp_value hr (h V ε w hv (Ext.refl _ _) hM)
theorem isNew_eq {d : Nat} (h : isNew rw d = true) : rw d = none := by
  unfold isNew at h
  split at h
  · assumption
  · cases h
theorem ext_put {d : Nat} (h : rw d = none) (x : Option (Option Row)) (hx : x ≠ none) (V : Value) (t : Ty) : Ext rw ε (fun m => if m = d then x else rw m) (ε.put d V t) := by
  refine ⟨fun r hr => ?_, fun r hr => ?_, fun r hr => ?_⟩
  · show (if r = d then x else rw r) ≠ none
    split
    · exact hx
    · exact hr
  · exact Env.put_sv_ne _ _ _ (fun e => hr (e ▸ h))
  · exact Env.put_ty_ne _ _ _ (fun e => hr (e ▸ h))
/-- A new row in a new block. -/
theorem mem_new (hC : CtxOk C) (hM : Mem C rw ε w) {d : Nat} (hd : rw d = none) (hp : Pres (fun _ => False) w w') {t : Ty} {e : TypeId} {xs : List t.den} {V : Value} (ho : OwnV w' t e xs V) (hb : ∀ g, V.ownBlock = some g → w.heap.size ≤ g) :
    Mem C (updF rw [(d, some ⟨t, e, true, xs⟩)]) (ε.put d V t) w' := by
  refine mem_step hC hM (N := fun r => r = d) hp (fun _ _ h => h.elim) (fun r x hr hN => ?_) (fun r x hr hN => ?_) (fun r _ r' _ _ _ h1 h2 hne => absurd (h1.trans h2.symm) hne)
  · have hN' : r ≠ d := hN
    rw [show updF rw [(d, some ⟨t, e, true, xs⟩)] = (fun m => if m = d then some (some ⟨t, e, true, xs⟩) else rw m) from rfl, row_put_ne rw _ hN'] at hr
    exact ⟨hr, Env.put_sv_ne _ _ _ hN', Env.put_ty_ne _ _ _ hN', fun _ _ _ h => h⟩
  · have hN' : r = d := hN
    subst hN'
    rw [show updF rw [(r, some ⟨t, e, true, xs⟩)] = (fun m => if m = r then some (some ⟨t, e, true, xs⟩) else rw m) from rfl, row_put_same] at hr
    cases hr
    rw [Env.put_sv_same]
    refine ⟨⟨Env.put_ty_same _ _ _ _, fun _ => ?_, ?_⟩, fun g hg => .inr (hb g hg)⟩
    · rw [Env.put_sv_same]
      exact ⟨ho, fun g hg => hC.new g (Nat.le_trans hM.pres.size (hb g hg))⟩
    · rw [Env.put_sv_same]
      exact own_read ho
theorem good_new (hC : CtxOk C) (hM : Mem C rw ε w) {d : Nat} (hd : rw d = none) (hp : Pres (fun _ => False) w w') {t : Ty} {e : TypeId} {xs : List t.den} {V : Value} (ho : OwnV w' t e xs V) (hb : ∀ g, V.ownBlock = some g → w.heap.size ≤ g)
    (hr : (execOp a.eval o).run C.P w = .ok (.value V) w') : Good C rw ε a w o (.sl d) [(d, some ⟨t, e, true, xs⟩)] := by
  intro next Q h
  refine wp_value hr (h V (ε.put d V t) w' ⟨?_, (Env.put_sv_same _ _ _ _).symm⟩ (ext_put hd _ (by simp) V t) (mem_new hC hM hd hp ho hb))
  show (if d = d then _ else _) ≠ none
  simp
/-- A row of one's own gives its block to another one. -/
theorem mem_over (hC : CtxOk C) (hM : Mem C rw ε w) {d r : Nat} {y : Row} (hd : rw d = none) (hy : row rw r = some y) (hown : y.own = true) (hp : Pres (fun k => some k = (ε.sv r).ownBlock) w w') {t : Ty} {e : TypeId} {xs : List t.den} {V : Value} (ho : OwnV w' t e xs V)
    (hb : ∀ g, V.ownBlock = some g → some g = (ε.sv r).ownBlock ∨ w.heap.size ≤ g) :
    Mem C (updF rw [(r, none), (d, some ⟨t, e, true, xs⟩)]) (ε.put d V t) w' := by
  have hrd : r ≠ d := fun e => row_used hy (e ▸ hd)
  have hupd : updF rw [(r, none), (d, some ⟨t, e, true, xs⟩)] = fun m => if m = d then some (some ⟨t, e, true, xs⟩) else if m = r then some none else rw m := rfl
  have hmine : ∀ k, some k = (ε.sv r).ownBlock → C.mine k := fun k hk => ((hM.ok r y hy).own hown).2 k hk.symm
  rw [hupd]
  refine mem_step hC hM (N := fun n => n = d) hp (fun k _ h => hmine k h) (fun n x hr hN => ?_) (fun n x hr hN => ?_) (fun r _ r' _ _ _ h1 h2 hne => absurd (h1.trans h2.symm) hne)
  · have hN' : n ≠ d := hN
    rw [row_put_ne _ _ hN'] at hr
    have hnr : n ≠ r := by
      rintro rfl
      rw [row_kill] at hr
      cases hr
    rw [row_put_ne _ _ hnr] at hr
    refine ⟨hr, Env.put_sv_ne _ _ _ hN', Env.put_ty_ne _ _ _ hN', fun hx g hg hg' => ?_⟩
    exact hM.sep r y n x hy hown hr (Ne.symm hnr) hx g hg'.symm hg
  · have hN' : n = d := hN
    subst hN'
    rw [row_put_same] at hr
    cases hr
    rw [Env.put_sv_same]
    refine ⟨⟨Env.put_ty_same _ _ _ _, fun _ => ?_, ?_⟩, fun g hg => hb g hg⟩
    · rw [Env.put_sv_same]
      refine ⟨ho, fun g hg => ?_⟩
      rcases hb g hg with h1 | h1
      · exact hmine g h1
      · exact hC.new g (Nat.le_trans hM.pres.size h1)
    · rw [Env.put_sv_same]
      exact own_read ho
theorem good_over (hC : CtxOk C) (hM : Mem C rw ε w) {d r : Nat} {y : Row} (hd : rw d = none) (hy : row rw r = some y) (hown : y.own = true) (hp : Pres (fun k => some k = (ε.sv r).ownBlock) w w') {t : Ty} {e : TypeId} {xs : List t.den} {V : Value} (ho : OwnV w' t e xs V)
    (hb : ∀ g, V.ownBlock = some g → some g = (ε.sv r).ownBlock ∨ w.heap.size ≤ g) (hr : (execOp a.eval o).run C.P w = .ok (.value V) w') : Good C rw ε a w o (.sl d) [(r, none), (d, some ⟨t, e, true, xs⟩)] := by
  intro next Q h
  refine wp_value hr (h V (ε.put d V t) w' ⟨?_, (Env.put_sv_same _ _ _ _).symm⟩ ⟨fun n hn => ?_, fun n hn => ?_, fun n hn => ?_⟩ (mem_over hC hM hd hy hown hp ho hb))
  · show (if d = d then _ else _) ≠ none
    simp
  · show (if n = d then _ else if n = r then _ else rw n) ≠ none
    split
    · simp
    · split
      · simp
      · exact hn
  · exact Env.put_sv_ne _ _ _ (fun e => hn (e ▸ hd))
  · exact Env.put_ty_ne _ _ _ (fun e => hn (e ▸ hd))
/-- A store into a row of one's own. -/
theorem mem_set (hC : CtxOk C) (hM : Mem C rw ε w) {r : Nat} {y : Row} (hy : row rw r = some y) (hown : y.own = true) (hp : Pres (fun k => some k = (ε.sv r).ownBlock) w w') {xs : List y.t.den} (ho : OwnV w' y.t y.e xs (ε.sv r)) :
    Mem C (updF rw [(r, some ⟨y.t, y.e, true, xs⟩)]) ε w' := by
  have hmine : ∀ k, some k = (ε.sv r).ownBlock → C.mine k := fun k hk => ((hM.ok r y hy).own hown).2 k hk.symm
  rw [show updF rw [(r, some ⟨y.t, y.e, true, xs⟩)] = (fun m => if m = r then some (some ⟨y.t, y.e, true, xs⟩) else rw m) from rfl]
  refine mem_step hC hM (N := fun n => n = r) hp (fun k _ h => hmine k h) (fun n x hr hN => ?_) (fun n x hr hN => ?_) (fun r _ r' _ _ _ h1 h2 hne => absurd (h1.trans h2.symm) hne)
  · have hN' : n ≠ r := hN
    rw [row_put_ne _ _ hN'] at hr
    exact ⟨hr, rfl, rfl, fun hx g hg hg' => hM.sep r y n x hy hown hr (Ne.symm hN') hx g hg'.symm hg⟩
  · have hN' : n = r := hN
    subst hN'
    rw [row_put_same] at hr
    cases hr
    refine ⟨⟨(hM.ok n y hy).ty, fun _ => ⟨ho, fun g hg => hmine g hg.symm⟩, own_read ho⟩, fun g hg => .inl hg.symm⟩
theorem ext_set {r : Nat} {x : Row} : Ext rw ε (updF rw [(r, some x)]) ε := by
  refine ⟨fun n hn => ?_, fun _ _ => rfl, fun _ _ => rfl⟩
  show (if n = r then _ else rw n) ≠ none
  split
  · simp
  · exact hn
end
end Go.Ev

/- Each operation that the evaluator knows does what it says: those that make no row. -/
namespace Go.Ev
open Go.RowKit
section
variable {C : Ctx} {rw : RW} {ε : Env} {w : World} {g : Nat → Option AV} {a : Act} {o : Oper} {R : Type}
theorem kbeq_refl (k : IntKind) : kbeq k k = true := by cases k <;> rfl
theorem run_intbin {P : Program} (op : BinOp) (xt : TypeId) (x y : Operand) (k j : IntKind) (m n : Int) (w : World) :
    (do eqGuard op xt x y (.int k m) (.int j n); binOp op xt (.int k m) (.int j n) : Sem Value).run P w = (binOp op xt (.int k m) (.int j n)).run P w := by
  simp [eqGuard_at_int]
theorem run_strbin {P : Program} (op : BinOp) (xt : TypeId) (x y : Operand) (s : ByteArray) (V : Value) (w : World) :
    (do eqGuard op xt x y (.string s) V; binOp op xt (.string s) V : Sem Value).run P w = (binOp op xt (.string s) V).run P w := by
  simp [eqGuard_at_string]
theorem run_boolbin {P : Program} (op : BinOp) (xt : TypeId) (x y : Operand) (s : Bool) (V : Value) (w : World) :
    (do eqGuard op xt x y (.bool s) V; binOp op xt (.bool s) V : Sem Value).run P w = (binOp op xt (.bool s) V).run P w := by
  simp [eqGuard_at_bool]
theorem run_equalIn_boolE {P : Program} (d : Nat) (t : TypeId) (x y : Bool) (w : World) (h : P.underlying t = some .bool) : (Op.equalIn (d + 1) t (.bool x) (.bool y)).run P w = .ok (x == y) w := by
  simp [Op.equalIn, run_underlying h]
theorem run_equal_bool {P : Program} (t : TypeId) (x y : Bool) (w : World) (h : P.underlying t = some .bool) : (Op.equal t (.bool x) (.bool y)).run P w = .ok (x == y) w := run_equalIn_boolE 9999 t x y w h
theorem run_eql_bool {P : Program} (t : TypeId) (x y : Bool) (w : World) (h : P.underlying t = some .bool) : (binOp .eql t (.bool x) (.bool y)).run P w = .ok (.bool (x == y)) w := by
  show (do pure (Value.bool (← Op.equal t (.bool x) (.bool y))) : Sem Value).run P w = _
  simp [run_equal_bool t x y w h, Result.andThen]
theorem run_neq_bool {P : Program} (t : TypeId) (x y : Bool) (w : World) (h : P.underlying t = some .bool) : (binOp .neq t (.bool x) (.bool y)).run P w = .ok (.bool (!(x == y))) w := by
  show (do pure (Value.bool (!(← Op.equal t (.bool x) (.bool y)))) : Sem Value).run P w = _
  simp [run_equal_bool t x y w h, Result.andThen]
theorem und_struct {P : Program} {n : TypeId} {t : Ty} (h : UndOk P n t) {j : Nat} {s : Ty} (hj : t.fld j = some s) : ∃ fs, P.underlying n = some (.struct fs) ∧ FieldsOk P fs t := by
  cases t <;> first | (cases hj; done) | exact h
theorem und_struct' {P : Program} {n : TypeId} {t : Ty} (h : UndOk P n t) (hj : t.isStruct = true) : ∃ fs, P.underlying n = some (.struct fs) ∧ FieldsOk P fs t := by
  cases t <;> first | (cases hj; done) | exact h
theorem run_part {P : Program} {n : TypeId} {s : Ty} (h : SzOk P n s) (w : World) (cs : Array Value) (off : Nat) (y : s.den) (hc : s.cells y = (cs.toList.drop off).take s.sz) :
    (part n cs off).run P w = .ok (s.val y) w := by
  unfold part
  rw [Sem.run_bind, run_isAgg h w]
  cases hs : s.isStruct with
  | true =>
    have : (cs.extract off (off + s.sz)) = (s.cells y).toArray := by
      apply Array.ext'
      rw [hc, Array.toList_extract, List.extract_eq_take_drop]
      congr 1
      omega
    simp [Result.andThen, run_sizeOf h, this, s.val_struct y hs]
  | false =>
    have h0 : cs[off]? = some (s.val y) := by
      have h1 : (s.cells y)[0]? = some (s.val y) := by rw [s.cells_basic y hs]; rfl
      rw [hc, List.getElem?_take] at h1
      split at h1
      · rw [List.getElem?_drop] at h1
        simpa using h1
      · cases h1
    simp [Result.andThen, h0]
/-- Equality of structs. -/
theorem run_eqB {P : Program} {T : Tab} (hT : TabOk P T) {n : TypeId} {t : Ty} (h : BasicOk P n t) {x y : t.den} {c : Bool} (hc : eqB T t x y = some c) (d : Nat) (w : World) : (Op.equalIn (d + 1) n (t.val x) (t.val y)).run P w = .ok c w := by
  cases t with
  | int k =>
    cases hc
    have hu : P.underlying n = some (.int k) := h
    show (Op.equalIn (d + 1) n (.int k x) (.int k y)).run P w = _
    rw [run_equalIn_int w d n k k x y hu, hT.eqI]
    congr 1
  | bool =>
    cases hc
    have hu : P.underlying n = some .bool := h
    exact run_equalIn_bool' w d n x y hu
  | str =>
    cases hc
    have hu : P.underlying n = some .string := h
    rw [hT.eqS]
    exact run_equalIn_string w d n x y hu
  | flt => cases hc
  | nils => cases hc
  | nile => cases hc
  | one a => cases hc
  | pair a b => cases hc
theorem run_eqFields {P : Program} {T : Tab} (hT : TabOk P T) {xs ys : Array Value} (d : Nat) (w : World) : ∀ (t : Ty) (off : Nat) (fs : List Field) (x y : t.den) (c : Bool), eqF T t x y = some c → t.cells x = xs.toList.drop off → t.cells y = ys.toList.drop off → (∀ f ∈ fs, f.name ≠ "_") →
    (∀ j s, t.fld j = some s → ∃ f, fs[j]? = some f ∧ f.offset = off + t.off j ∧ SzOk P f.type s ∧ (s.isStruct = false → BasicOk P f.type s)) → (∀ j f, fs[j]? = some f → ∃ s, t.fld j = some s) → (Op.eqFields (d + 1) xs ys fs).run P w = .ok c w
  | .int _, _, _, _, _, _, h, _, _, _, _, _ => by cases h
  | .bool, _, _, _, _, _, h, _, _, _, _, _ => by cases h
  | .str, _, _, _, _, _, h, _, _, _, _, _ => by cases h
  | .flt, _, _, _, _, _, h, _, _, _, _, _ => by cases h
  | .nils, _, _, _, _, _, h, _, _, _, _, _ => by cases h
  | .nile, _, _, _, _, _, h, _, _, _, _, _ => by cases h
  | .one a, off, fs, x, y, c, h, hx, hy, hn, h1, h2 => by
    obtain ⟨f, hf, hoff, hsz, hb⟩ := h1 0 a rfl
    match fs, hf with
    | [], hf => simp at hf
    | f0 :: fs', hf =>
      have hf : f0 = f := by simpa using hf
      subst hf
      have hnil : fs' = [] := by
        cases fs' with
        | nil => rfl
        | cons g gs =>
          obtain ⟨s, hs⟩ := h2 1 g rfl
          cases hs
      subst hnil
      have hns : a.isStruct = false := by
        cases a <;> first | rfl | cases h
      have hoff : f0.offset = off := hoff
      have e1 := run_part hsz w xs f0.offset x (by rw [hoff, ← hx, ← a.cells_length x]; exact (List.take_length).symm)
      have e2 := run_part hsz w ys f0.offset y (by rw [hoff, ← hy, ← a.cells_length y]; exact (List.take_length).symm)
      have e3 := run_eqB hT (hb hns) (show eqB T a x y = some c from h) d w
      unfold Op.eqFields
      rw [if_pos (hn f0 (by simp))]
      simp only [Sem.run_bind, e1, e2, e3, Result.andThen_ok]
      cases c <;> simp [Op.eqFields]
  | .pair a b, off, fs, x, y, c, h, hx, hy, hn, h1, h2 => by
    unfold eqF at h
    split at h
    · rename_i c1 c2 hc1 hc2
      cases h
      obtain ⟨f, hf, hoff, hsz, hb⟩ := h1 0 a rfl
      match fs, hf with
      | [], hf => simp at hf
      | f0 :: fs', hf =>
        have hf : f0 = f := by simpa using hf
        subst hf
        have hns : a.isStruct = false := by
          cases a <;> first | rfl | cases hc1
        have hoff : f0.offset = off := hoff
        have hx : a.cells x.1 ++ b.cells x.2 = xs.toList.drop off := hx
        have hy : a.cells y.1 ++ b.cells y.2 = ys.toList.drop off := hy
        have e1 := run_part hsz w xs f0.offset x.1 (by rw [hoff, ← hx, ← a.cells_length x.1, List.take_left']; rfl)
        have e2 := run_part hsz w ys f0.offset y.1 (by rw [hoff, ← hy, ← a.cells_length y.1, List.take_left']; rfl)
        have e3 := run_eqB hT (hb hns) hc1 d w
        have ih := run_eqFields (P := P) hT (xs := xs) (ys := ys) d w b (off + a.sz) fs' x.2 y.2 c2 hc2 (by rw [← List.drop_drop, ← hx, ← a.cells_length x.1, List.drop_left']; rfl) (by rw [← List.drop_drop, ← hy, ← a.cells_length y.1, List.drop_left']; rfl) (fun f hf => hn f (List.mem_cons_of_mem _ hf))
          (fun j s hs => by
            obtain ⟨f', k1, k2, k3⟩ := h1 (j + 1) s hs
            refine ⟨f', by simpa using k1, ?_, k3⟩
            rw [k2]
            show off + (a.sz + b.off j) = _
            omega) (fun j f' hf' => by
            obtain ⟨s, hs⟩ := h2 (j + 1) f' (by simpa using hf')
            exact ⟨s, hs⟩)
        unfold Op.eqFields
        rw [if_pos (hn f0 (by simp))]
        simp only [Sem.run_bind, e1, e2, e3, Result.andThen_ok]
        cases c1
        · simp
        · simp [ih]
    · cases h
theorem fields_eq {P : Program} {n : TypeId} {fs : Array Field} (h : P.underlying n = some (.struct fs)) : P.fieldsOf n = fs := by simp [Program.fieldsOf, h]
theorem run_structEq {P : Program} {T : Tab} (hT : TabOk P T) {n : TypeId} {t : Ty} (hu : UndOk P n t) (he : EqOk P n) {x y : t.den} {c : Bool} (hc : eqF T t x y = some c) (d : Nat) (w : World) : (Op.equalIn (d + 2) n (t.val x) (t.val y)).run P w = .ok c w := by
  have hst : t.isStruct = true := by cases t <;> first | rfl | cases hc
  obtain ⟨fs, hf, h1, h2⟩ := und_struct' hu hst
  rw [t.val_struct x hst, t.val_struct y hst, run_equalIn_struct w (d + 1) n _ _ (by rw [fields_eq hf]; exact hf) he.held, fields_eq hf]
  exact run_eqFields hT d w t 0 fs.toList x y c hc (by simp) (by simp) (fun f hm => he.names fs hf f (by simpa using hm)) (fun j s hs => by
    obtain ⟨f, k1, k2, k3⟩ := h1 j s hs
    exact ⟨f, by simpa using k1, by rw [k2, Nat.zero_add], k3⟩) (fun j f hf' => h2 j f (by simpa using hf'))
theorem run_eqGuard_nil {P : Program} (w : World) (op : BinOp) (xt : TypeId) (x y : Operand) (h : (isC x || isC y) = true) : (eqGuard op xt x y .nilIface .nilIface).run P w = .ok () w := by
  unfold eqGuard
  cases x <;> cases y <;> first | (cases h; done) | (cases op <;> rfl)
theorem binV_sound (hC : CtxOk C) {xt : TypeId} {op : BinOp} {x y : Operand} {av bv : AV} {A B : Value} {K : AV → Option R} {r : R} (hA : VRel rw ε av A) (hB : VRel rw ε bv B) (h : binV C.T (isC x || isC y) xt op av bv K = some r) :
    ∃ v V, K v = some r ∧ VRel rw ε v V ∧ (do eqGuard op xt x y A B; binOp op xt A B : Sem Value).run C.P w = .ok V w := by
  unfold binV at h
  split at h
  · rename_i k m j n
    obtain rfl : A = .int k m := hA
    obtain rfl : B = .int j n := hB
    rw [run_intbin]
    split at h
    · rename_i z hz
      obtain ⟨h0, h⟩ := chk_some h
      have h0 : (0 : Int) ≤ n := (by simpa [hC.tab.lt, hC.tab.le, hC.tab.eqI, hC.tab.nle] using h0)
      refine ⟨_, _, h, rfl, ?_⟩
      unfold shI at hz
      have hn : ¬ ((n : Int) < 0) := Int.not_lt.2 h0
      split at hz <;> cases hz <;> simp [binOp, Op.shift, hn, Ty.val]
    · rename_i hz
      obtain ⟨hk, h⟩ := bif_some h
      cases kbeq_eq hk
      split at h
      · rename_i c hc
        refine ⟨_, _, h, rfl, ?_⟩
        unfold cmpI at hc
        split at hc <;> cases hc <;> simp [binOp, Op.intCmp, Ty.val, bne, hC.tab.eqI, hC.tab.lt, hC.tab.le] <;> first | rfl | skip
      · rename_i hc
        split at h
        · rename_i z hz'
          refine ⟨_, _, h, rfl, ?_⟩
          unfold arI at hz'
          split at hz' <;> cases hz' <;> simp [binOp, Op.intArith, Ty.val]
        · split at h
          · rename_i z hz'
            obtain ⟨h0, h⟩ := chk_some h
            have h0 : ¬ (n : Int) = 0 := by simpa [hC.tab.eqI] using h0
            refine ⟨_, _, h, rfl, ?_⟩
            unfold divI at hz'
            split at hz' <;> cases hz' <;> simp [binOp, Op.intDiv, h0, Ty.val]
          · split at h
            · rename_i z hz'
              refine ⟨_, _, h, rfl, ?_⟩
              unfold bitI at hz'
              split at hz' <;> cases hz' <;> simp [binOp, Op.intBits, Ty.val]
            · cases h
  · rename_i s t
    obtain rfl : A = .string s := hA
    obtain rfl : B = .string t := hB
    rw [run_strbin]
    split at h
    · rename_i c hc
      refine ⟨_, _, h, rfl, ?_⟩
      unfold cmpS at hc
      split at hc <;> cases hc <;> simp [binOp, Op.stringOp, Ty.val, hC.tab.eqS]
    · split at h
      · obtain ⟨h0, h⟩ := chk_some h
        have h0 : s.size + t.size ≤ 9223372036854775807 := (by simpa [hC.tab.lt, hC.tab.le, hC.tab.eqI, hC.tab.nle] using h0)
        refine ⟨_, _, h, rfl, ?_⟩
        have := run_string_add_sum (P := C.P) w s t h0
        show (Op.stringOp .add s t).run C.P w = _
        rw [this]
        rfl
      · cases h
  · rename_i s t
    obtain rfl : A = .bool s := hA
    obtain rfl : B = .bool t := hB
    rw [run_boolbin]
    split at h
    · rename_i ht
      have hu : C.P.underlying xt = some .bool := (hC.tab.ty _ _ ht).2
      exact ⟨_, _, h, rfl, run_eql_bool xt s t w hu⟩
    · rename_i ht
      have hu : C.P.underlying xt = some .bool := (hC.tab.ty _ _ ht).2
      exact ⟨_, _, h, rfl, run_neq_bool xt s t w hu⟩
    · cases h
  · rename_i s t
    obtain rfl : A = .float .f64 s := hA
    obtain rfl : B = .float .f64 t := hB
    have he : (do eqGuard op xt x y (.float .f64 s) (.float .f64 t); binOp op xt (.float .f64 s) (.float .f64 t) : Sem Value).run C.P w = (binOp op xt (.float .f64 s) (.float .f64 t)).run C.P w := by
      rw [Sem.run_bind]
      have : (eqGuard op xt x y (.float .f64 s) (.float .f64 t)).run C.P w = .ok () w := by
        unfold eqGuard
        split <;> rfl
      rw [this]
      rfl
    rw [he]
    split at h
    · rename_i c hc
      refine ⟨_, _, h, rfl, ?_⟩
      unfold cmpFl at hc
      split at hc <;> cases hc <;> simp [binOp, Op.floatCmp, Ty.val, hC.tab.fo, bne]
    · obtain ⟨h0, h⟩ := chk_some h
      exact ⟨_, _, h, rfl, run_float_arith w op xt .f64 s t _ (hC.tab.fa _ _ _ h0)⟩
  · obtain rfl : A = .slice none 0 0 := hA
    obtain rfl : B = .slice none 0 0 := hB
    have he : (do eqGuard op xt x y (.slice none 0 0) (.slice none 0 0); binOp op xt (.slice none 0 0) (.slice none 0 0) : Sem Value).run C.P w = (binOp op xt (.slice none 0 0) (.slice none 0 0)).run C.P w := by
      simp [eqGuard_at_slice]
    rw [he]
    split at h
    · rename_i ht
      obtain ⟨e, hu⟩ : ∃ e, C.P.underlying xt = some (.slice e) := (hC.tab.ty _ _ ht).2
      refine ⟨_, _, h, rfl, ?_⟩
      show (do pure (Value.bool (← Op.equal xt (.slice none 0 0) (.slice none 0 0))) : Sem Value).run C.P w = _
      simp [run_equal_slice_nil w xt e none 0 0 hu, Result.andThen, Ty.val]
    · rename_i ht
      obtain ⟨e, hu⟩ : ∃ e, C.P.underlying xt = some (.slice e) := (hC.tab.ty _ _ ht).2
      refine ⟨_, _, h, rfl, ?_⟩
      show (do pure (Value.bool (!(← Op.equal xt (.slice none 0 0) (.slice none 0 0)))) : Sem Value).run C.P w = _
      simp [run_equal_slice_nil w xt e none 0 0 hu, Result.andThen, Ty.val]
    · cases h
  · obtain rfl : A = .nilIface := hA
    obtain rfl : B = .nilIface := hB
    have hg := run_eqGuard_nil (P := C.P) w op xt x y
    have heq : ∀ ms, C.P.underlying xt = some (.interface ms) → (Op.equal xt .nilIface .nilIface).run C.P w = .ok true w := by
      intro ms hu
      have h1 : ∀ d : Nat, (Op.equalIn (d + 1) xt .nilIface .nilIface).run C.P w = .ok true w := fun d => by
        unfold Op.equalIn
        rw [Sem.run_bind, run_underlying hu]
        rfl
      exact h1 9999
    split at h
    · rename_i ht hc
      obtain ⟨ms, hu⟩ : ∃ ms, C.P.underlying xt = some (.interface ms) := (hC.tab.ty _ _ ht).2
      refine ⟨_, _, h, rfl, ?_⟩
      rw [Sem.run_bind, hg hc]
      show (do pure (Value.bool (← Op.equal xt .nilIface .nilIface)) : Sem Value).run C.P w = _
      simp [heq ms hu, Result.andThen, Ty.val]
    · rename_i ht hc
      obtain ⟨ms, hu⟩ : ∃ ms, C.P.underlying xt = some (.interface ms) := (hC.tab.ty _ _ ht).2
      refine ⟨_, _, h, rfl, ?_⟩
      rw [Sem.run_bind, hg hc]
      show (do pure (Value.bool (!(← Op.equal xt .nilIface .nilIface))) : Sem Value).run C.P w = _
      simp [heq ms hu, Result.andThen, Ty.val]
    · cases h
  · rename_i t x' s y' _ _ _ _ _ _
    obtain rfl : A = t.val x' := hA
    obtain rfl : B = s.val y' := hB
    split at h
    · rename_i u z ht hz
      obtain ⟨hb, h⟩ := bif_some h
      rw [Bool.and_eq_true] at hb
      have hut := Ty.beq_eq hb.2
      subst hut
      obtain ⟨hc, hz⟩ := cast?_eq (F := Ty.den) hz
      subst hc
      subst hz
      split at h
      · rename_i c hc
        have hU := (hC.tab.ty _ _ ht).2
        have hE := hC.tab.eq _ hb.1
        have hst : s.isStruct = true := by cases s <;> first | rfl | cases hc
        have hrun := run_structEq hC.tab hU hE hc 9998 w
        rw [s.val_struct _ hst, s.val_struct _ hst] at hrun ⊢
        have hg : ∀ op, (eqGuard op xt x y (.agg (s.cells x').toArray) (.agg (s.cells y').toArray)).run C.P w = .ok () w := fun op => run_eqGuard_agg w op xt x y _ _ hE.guard
        split at h
        · refine ⟨_, _, h, rfl, ?_⟩
          rw [Sem.run_bind, hg]
          show (binOp .eql xt _ _).run C.P w = _
          rw [run_eql_struct, hrun]
          rfl
        · refine ⟨_, _, h, rfl, ?_⟩
          rw [Sem.run_bind, hg]
          show (binOp .neq xt _ _).run C.P w = _
          rw [run_neq_struct, hrun]
          rfl
        · cases h
      · cases h
    · cases h
  · cases h
end
end Go.Ev

/- Each operation that the evaluator knows does what it says: parts of structs, reads, cuts. -/
namespace Go.Ev
open Go.RowKit
section
variable {C : Ctx} {rw : RW} {ε : Env} {w : World} {g : Nat → Option AV} {a : Act} {o : Oper} {R : Type}
theorem SzOk.cellsz {P : Program} {n : TypeId} {t : Ty} (h : SzOk P n t) : ∃ i, P.info? n = some i ∧ i.zero = some (t.val t.zero) ∧ i.size = t.sz ∧ i.bytes ≤ 140 := info_of h
theorem run_field (hC : CtxOk C) {n : TypeId} {t : Ty} (h : C.T.ty n = some t) {j : Nat} {s : Ty} (hj : t.fld j = some s) (x : t.den) (w : World) :
    (Instr.field n (t.val x) j).run C.P w = .ok ((t.get j x).1.val (t.get j x).2) w := by
  obtain ⟨fs, hu, hf⟩ := und_struct (hC.tab.ty _ _ h).2 hj
  obtain ⟨f, hfj, hoff, hsz, _⟩ := hf.1 j s hj
  have hst : t.isStruct = true := by cases t <;> first | (cases hj; done) | rfl
  have e := t.fld_get j x s hj
  have hc := t.get_cells j x s hj
  generalize t.get j x = p at e hc
  obtain ⟨p1, p2⟩ := p
  obtain rfl : p1 = s := e
  have hp := run_part (P := C.P) hsz w (t.cells x).toArray f.offset p2 (by rw [hoff]; exact hc)
  simp [Instr.field, run_underlying hu, hfj, t.val_struct x hst, asAgg, Result.andThen, hp]
theorem run_fieldAt (hC : CtxOk C) {n : TypeId} {t : Ty} (h : C.T.ty n = some t) {j : Nat} {s : Ty} (hj : t.fld j = some s) (ad : Addr) (w : World) :
    (Instr.fieldAt n (.pointer (some ad)) j).run C.P w = .ok (.pointer (some (ad.add (t.off j)))) w := by
  obtain ⟨fs, hu, hf⟩ := und_struct (hC.tab.ty _ _ h).2 hj
  obtain ⟨f, hfj, hoff, hsz, _⟩ := hf.1 j s hj
  have h0 := s.sz_pos
  simp [Instr.fieldAt, run_underlying hu, hfj, Instr.sureAddr, Result.andThen, fieldPlace, run_sizeOf hsz, Nat.ne_of_gt h0, hoff]
theorem ty_eq {ty : Ty} {x : Row} (h : Ty.beq ty x.t = true) : ty = x.t := Ty.beq_eq h
/-- A row's value and its cells. -/
theorem row_slice (hM : Mem C rw ε w) {r : Nat} {x : Row} (h : row rw r = some x) : ∃ A c, ε.sv r = .slice A x.xs.length c ∧ x.xs.length ≤ c ∧
    (∀ i : Nat, (hi : i < x.xs.length) → ∃ ad, A = some ad ∧ ∀ j u, (x.t.cells (x.xs[i]'hi))[j]? = some u → w.cell? ((ad.add (i * x.t.sz)).add j) = some u) := by
  obtain ⟨A, c, hv, hc, hr⟩ := (hM.ok r x h).read
  have h1 := (hM.ok r x h).read
  rw [hv] at h1
  exact ⟨A, c, hv, hc, (ReadV.at_ h1).2.2⟩
theorem elem_eq {P : Program} {t e : TypeId} (h : P.underlying t = some (.slice e)) : P.elem t = e := by simp [Program.elem, h]
theorem run_indexAt (hC : CtxOk C) {t : TypeId} {ty : Ty} {e : TypeId} (h : C.T.sl t = some (ty, e)) (ad : Addr) (n c : Nat) (k : IntKind) (i : Int) (h0 : 0 ≤ i) (h1 : i < n) (w : World) :
    (Instr.indexAt t (.slice (some ad) n c) (.int k i)).run C.P w = .ok (.pointer (some (ad.add (i.toNat * ty.sz)))) w := by
  obtain ⟨hu, hs, _⟩ := hC.tab.sl _ _ _ h
  have hel := elem_eq hu
  rw [run_indexAt_slice w t ad n c k i (by rw [hel]; exact hu), if_pos ⟨h0, h1⟩, hel, run_sizeOf hs]
  rfl
theorem good_indexAddr (hC : CtxOk C) (hM : Mem C rw ε w) {t : TypeId} {x i : Operand} (ho : o.op = .indexAddr t x i) {ty : Ty} {e : TypeId} (ht : C.T.sl t = some (ty, e)) {av : AV} (hx : VRel rw ε av (a.eval x)) {k : IntKind} {n : Int} (hi : a.eval i = .int k n) (h0 : 0 ≤ n) :
    (∀ r y, av = .sl r → row rw r = some y → ty = y.t → n < (y.xs.length : Int) → Good C rw ε a w o (.ptr r n) []) ∧
    (∀ r p lo hi y, av = .cut r p lo hi → row rw r = some y → ty = y.t → n < hi - lo → Good C rw ε a w o (.ptr r (lo + n)) []) := by
  constructor
  · rintro r y rfl hy rfl h1
    obtain ⟨hu, hV⟩ := hx
    obtain ⟨A, c, hv, hc, hr⟩ := row_slice hM hy
    obtain ⟨ad, hA, _⟩ := hr n.toNat (by omega)
    subst hA
    rw [hv] at hV
    refine good_pure hM (V := .pointer (some (ad.add (n.toNat * y.t.sz)))) ?_ ?_
    · simp [execOp, ho, hV, hi, run_indexAt hC ht ad _ c k n h0 h1 w, Result.andThen]
    · refine ⟨hu, ad, _, c, hv, h0, h1, ?_⟩
      rw [(hM.ok r y hy).ty]
  · rintro r p lo hq y rfl hy rfl h1
    obtain ⟨hu, A, m, c, A', c', hv, hmc, hV, hl0, hlh, hhm, hc', hne, _⟩ := hx
    obtain ⟨ad, hA, hA'⟩ := hne (by omega)
    subst hA; subst hA'
    rw [(hM.ok r y hy).ty] at hV
    refine good_pure hM (V := .pointer (some ((ad.add (lo.toNat * y.t.sz)).add (n.toNat * y.t.sz)))) ?_ ?_
    · simp [execOp, ho, hV, hi, run_indexAt hC ht _ _ c' k n h0 (show n < (((hq - lo).toNat : Nat) : Int) by omega) w, Result.andThen]
    · refine ⟨hu, ad, m, c, hv, by omega, by omega, ?_⟩
      rw [(hM.ok r y hy).ty, Addr.add_add, ← Nat.add_mul, show lo.toNat + n.toNat = (lo + n).toNat by omega]
theorem good_load (hC : CtxOk C) (hM : Mem C rw ε w) {s : TypeId} {x : Operand} (ho : o.op = .load s x) {ty : Ty} (ht : C.T.ty s = some ty) {r : Nat} {i : Int} (hx : VRel rw ε (.ptr r i) (a.eval x)) {y : Row} (hy : row rw r = some y) (he : ty = y.t) :
    Good C rw ε a w o (.v y.t (nth y.t y.xs i)) [] := by
  subst he
  obtain ⟨_, ad, n, c, hv, h0, h1, hV⟩ := hx
  obtain ⟨A, c', hv', hc', hr⟩ := row_slice hM hy
  rw [hv] at hv'
  injection hv' with e1 e2 e3
  subst e2; subst e3
  have hi : i.toNat < y.xs.length := by omega
  obtain ⟨ad', hA, hcell⟩ := hr i.toNat hi
  rw [← e1] at hA
  cases hA
  refine good_pure hM (V := y.t.val (nth y.t y.xs i)) ?_ rfl
  have hl := run_loadVar (P := C.P) (hC.tab.ty _ _ ht).1 w (ad.add (i.toNat * y.t.sz)) (nth y.t y.xs i) (by rw [nth_eq _ _ _ hi]; exact hcell)
  rw [(hM.ok r y hy).ty] at hV
  simp [execOp, ho, hV, Instr.loadAt, Instr.sureAddr, hl, Result.andThen]
theorem good_fload (hC : CtxOk C) (hM : Mem C rw ε w) {s : TypeId} {x : Operand} (ho : o.op = .load s x) {ty : Ty} (ht : C.T.ty s = some ty) {r : Nat} {i : Int} {j : Nat} (hx : VRel rw ε (.fptr r i j) (a.eval x)) {y : Row} (hy : row rw r = some y)
    (he : ty = (y.t.get j (nth y.t y.xs i)).1) : Good C rw ε a w o (.v (y.t.get j (nth y.t y.xs i)).1 (y.t.get j (nth y.t y.xs i)).2) [] := by
  obtain ⟨_, ad, n, c, f, hv, h0, h1, hf, hV⟩ := hx
  obtain ⟨A, c', hv', hc', hr⟩ := row_slice hM hy
  rw [hv] at hv'
  injection hv' with e1 e2 e3
  subst e2; subst e3
  have hi : i.toNat < y.xs.length := by omega
  obtain ⟨ad', hA, hcell⟩ := hr i.toNat hi
  rw [← e1] at hA
  cases hA
  rw [(hM.ok r y hy).ty] at hV hf
  have e := y.t.fld_get j (nth y.t y.xs i) f hf
  have hcs := y.t.get_cells j (nth y.t y.xs i) f hf
  rw [nth_eq _ _ _ hi] at hcs e he ⊢
  generalize y.t.get j (y.xs[i.toNat]'hi) = p at e hcs he
  obtain ⟨p1, p2⟩ := p
  obtain rfl : p1 = f := e
  obtain rfl : ty = p1 := he
  refine good_pure hM (V := ty.val p2) ?_ rfl
  have hl := run_loadVar (P := C.P) (hC.tab.ty _ _ ht).1 w (ad.add (i.toNat * y.t.sz + y.t.off j)) p2 (by
    intro q u hu
    show w.cell? _ = _
    simp only at hcs
    rw [hcs, List.getElem?_take] at hu
    split at hu
    · rw [List.getElem?_drop] at hu
      have := hcell _ u hu
      rw [Addr.add_add] at this ⊢
      rw [Nat.add_assoc]
      exact this
    · cases hu)
  simp [execOp, ho, hV, Instr.loadAt, Instr.sureAddr, hl, Result.andThen]
theorem good_fieldAddr (hC : CtxOk C) (hM : Mem C rw ε w) {s : TypeId} {x : Operand} {j : Nat} (ho : o.op = .fieldAddr s x j) {ty : Ty} (ht : C.T.ty s = some ty) {f : Ty} (hf : ty.fld j = some f) {r : Nat} {i : Int} (hx : VRel rw ε (.ptr r i) (a.eval x)) {y : Row} (hy : row rw r = some y) (he : ty = y.t) :
    Good C rw ε a w o (.fptr r i j) [] := by
  subst he
  obtain ⟨hu, ad, n, c, hv, h0, h1, hV⟩ := hx
  rw [(hM.ok r y hy).ty] at hV
  refine good_pure hM (V := .pointer (some (ad.add (i.toNat * y.t.sz + y.t.off j)))) ?_ ?_
  · have hl := run_fieldAt hC ht hf (ad.add (i.toNat * y.t.sz)) w
    rw [Addr.add_add] at hl
    simp [execOp, ho, hV, hl, Result.andThen]
  · refine ⟨hu, ad, n, c, f, hv, h0, h1, by rw [(hM.ok r y hy).ty]; exact hf, by rw [(hM.ok r y hy).ty]⟩
/-- A slice's run. -/
theorem run_cut (hC : CtxOk C) {t : TypeId} {ty : Ty} {e : TypeId} (h : C.T.sl t = some (ty, e)) (A : Option Addr) (n c : Nat) (lo hi : Int) (h0 : 0 ≤ lo) (h1 : lo ≤ hi) (h2 : hi ≤ n) (hnc : n ≤ c) (L H : Option Value)
    (hL : (∃ k, L = some (.int k lo)) ∨ (L = none ∧ lo = 0)) (hH : (∃ k, H = some (.int k hi)) ∨ (H = none ∧ hi = n)) (w : World) :
    (Instr.sliceAt t (.slice A n c) L H none).run C.P w = .ok (.slice (if c = lo.toNat then A else A.map (·.add (lo.toNat * ty.sz))) (hi - lo).toNat (c - lo.toNat)) w := by
  obtain ⟨hu, hs, _⟩ := hC.tab.sl _ _ _ h
  have hel := elem_eq hu
  have hu' : C.P.underlying t = some (.slice (C.P.elem t)) := by rw [hel]; exact hu
  rw [run_sliceAt_slice w t _ _ _ _ hu']
  have hsz := run_sizeOf hs w
  rw [← hel] at hsz
  have e1 : (hi - lo).toNat = hi.toNat - lo.toNat := by omega
  rcases hL with ⟨kl, rfl⟩ | ⟨rfl, rfl⟩
  · rcases hH with ⟨kh, rfl⟩ | ⟨rfl, rfl⟩
    · rw [run_slice_lh w t A n c hu' kl kh lo hi h0 h1 (by omega), hsz, e1]; rfl
    · rw [run_slice_l w t A n c hu' kl lo h0 h1, hsz, e1]; rfl
  · rcases hH with ⟨kh, rfl⟩ | ⟨rfl, rfl⟩
    · rw [run_slice_h w t A n c hu' kh hi (by omega) (by omega), hsz, e1]; rfl
    · rw [run_slice_all w t A n c hu', hsz, e1]; rfl
theorem good_cut (hC : CtxOk C) (hM : Mem C rw ε w) {t : TypeId} {x : Operand} {L H : Option Operand} (ho : o.op = .slice t x L H none) {ty : Ty} {e : TypeId} (ht : C.T.sl t = some (ty, e)) {av : AV} (hx : VRel rw ε av (a.eval x)) {lo hi : Int} (h0 : 0 ≤ lo) (h1 : lo ≤ hi)
    (hL : (∃ k, L.map a.eval = some (.int k lo)) ∨ (L.map a.eval = none ∧ lo = 0)) :
    (∀ r y, av = .sl r → row rw r = some y → ty = y.t → hi ≤ (y.xs.length : Int) → ((∃ k, H.map a.eval = some (.int k hi)) ∨ (H.map a.eval = none ∧ hi = (y.xs.length : Int))) → Good C rw ε a w o (.cut r (zeroLo L) lo hi) []) ∧
    (∀ r p l1 h1' y, av = .cut r p l1 h1' → row rw r = some y → ty = y.t → hi ≤ h1' - l1 → ((∃ k, H.map a.eval = some (.int k hi)) ∨ (H.map a.eval = none ∧ hi = h1' - l1)) → Good C rw ε a w o (.cut r (p && zeroLo L) (l1 + lo) (l1 + hi)) []) := by
  have hzero : zeroLo L = true → lo = 0 := by
    intro hz
    unfold zeroLo at hz
    split at hz
    · rcases hL with ⟨k, hk⟩ | ⟨_, h⟩
      · cases hk
      · exact h
    · rcases hL with ⟨k, hk⟩ | ⟨_, h⟩
      · have hk : some (Value.int _ 0) = some (Value.int k lo) := hk
        injection hk with hk
        injection hk with _ hk
        exact hk.symm
      · exact h
    · cases hz
  constructor
  · rintro r y rfl hy rfl h2 hH
    obtain ⟨hu, hV⟩ := hx
    obtain ⟨A, c, hv, hc, hr⟩ := row_slice hM hy
    rw [hv] at hV
    have hrun := run_cut hC ht A y.xs.length c lo hi h0 h1 h2 hc _ _ hL hH w
    refine good_pure hM (V := .slice (if c = lo.toNat then A else A.map (·.add (lo.toNat * y.t.sz))) (hi - lo).toNat (c - lo.toNat)) ?_ ⟨hu, A, y.xs.length, c, _, _, hv, hc, rfl, h0, h1, h2, by omega, fun hlt => ?_, fun hz => ?_, hzero⟩
    · simp [execOp, ho, hV, hrun, Result.andThen]
    · obtain ⟨ad, hA, _⟩ := hr lo.toNat (by omega)
      refine ⟨ad, hA, ?_⟩
      rw [if_neg (by omega), hA, (hM.ok r y hy).ty]
      rfl
    · subst hz
      simp only [Int.toNat_zero, Nat.zero_mul, Nat.sub_zero, and_true]
      split
      · rfl
      · cases A <;> simp [Addr.add]
  · rintro r p l1 h1' y rfl hy rfl h2 hH
    obtain ⟨hu, A, m, c, A', c', hv, hmc, hV, hl0, hlh, hhm, hc', hne, hz0, hp0⟩ := hx
    have hrun := run_cut hC ht A' (h1' - l1).toNat c' lo hi h0 h1 (by omega) hc' _ _ hL (hH.imp id (fun h => ⟨h.1, by omega⟩)) w
    refine good_pure hM (V := .slice (if c' = lo.toNat then A' else A'.map (·.add (lo.toNat * y.t.sz))) (hi - lo).toNat (c' - lo.toNat)) ?_
      ⟨hu, A, m, c, _, _, hv, hmc, by rw [show l1 + hi - (l1 + lo) = hi - lo by omega], by omega, by omega, by omega, by omega, fun hlt => ?_, fun hz => ?_, fun hp => by rw [Bool.and_eq_true] at hp; have e1 := hzero hp.2; have e2 := hp0 hp.1; omega⟩
    · simp [execOp, ho, hV, hrun, Result.andThen]
    · obtain ⟨ad, hA, hA'⟩ := hne (by omega)
      refine ⟨ad, hA, ?_⟩
      rw [if_neg (by omega), hA', (hM.ok r y hy).ty]
      simp only [Option.map_some]
      rw [Addr.add_add, ← Nat.add_mul, show l1.toNat + lo.toNat = (l1 + lo).toNat by omega]
    · obtain rfl : lo = 0 := by omega
      obtain ⟨e1, e2⟩ := hz0 (by omega)
      subst e1; subst e2
      simp only [Int.toNat_zero, Nat.zero_mul, Nat.sub_zero, and_true]
      split
      · rfl
      · cases A' <;> simp [Addr.add]
/-- What a slice tells can be read. -/
theorem listOf_read (hM : Mem C rw ε w) {av : AV} {V : Value} (hv : VRel rw ε av V) {y : Row} (h : listOf rw av = some y) : ReadV w y.t y.xs V ∧ ((∃ r, av = .sl r ∧ row rw r = some y) ∨ (∃ r p lo hi x, av = .cut r p lo hi ∧ row rw r = some x ∧ y = ⟨x.t, x.e, false, (x.xs.drop lo.toNat).take (hi.toNat - lo.toNat)⟩) ∨ (∃ t e, av = .nilS t e ∧ y = ⟨t, e, false, []⟩)) := by
  unfold listOf at h
  split at h
  · rename_i r
    obtain ⟨_, rfl⟩ := hv
    exact ⟨(hM.ok r y h).read, .inl ⟨r, rfl, h⟩⟩
  · rename_i r p lo hi
    split at h
    · rename_i x hx
      cases h
      refine ⟨?_, .inr (.inl ⟨r, p, lo, hi, x, rfl, hx, rfl⟩)⟩
      obtain ⟨hu, A, m, c, A', c', hv, hmc, hV, hl0, hlh, hhm, hc', hne, hz0⟩ := hv
      obtain ⟨A2, c2, hv2, hc2, hr2⟩ := (hM.ok r x hx).read
      rw [hv] at hv2
      injection hv2 with e1 e2 e3
      subst e1; subst e2; subst e3
      have hlen : ((x.xs.drop lo.toNat).take (hi.toNat - lo.toNat)).length = (hi - lo).toNat := by
        rw [List.length_take, List.length_drop]; omega
      refine ⟨A', c', by rw [hV]; show _ = Value.slice A' ((x.xs.drop lo.toNat).take (hi.toNat - lo.toNat)).length c'; rw [hlen], by show ((x.xs.drop lo.toNat).take (hi.toNat - lo.toNat)).length ≤ c'; rw [hlen]; exact hc', fun j u hu => ?_⟩
      have hu : (cellsL x.t ((x.xs.drop lo.toNat).take (hi.toNat - lo.toNat)))[j]? = some u := hu
      have hlt : lo < hi := by
        by_cases hlt : lo < hi
        · exact hlt
        · rw [show hi.toNat - lo.toNat = 0 by omega] at hu
          simp [cellsL] at hu
      obtain ⟨ad, hA, hA'⟩ := hne hlt
      refine ⟨_, hA', ?_⟩
      rw [cellsL_take, cellsL_drop, List.getElem?_take] at hu
      split at hu
      · rw [List.getElem?_drop] at hu
        obtain ⟨ad', hA2, hcell⟩ := hr2 _ u hu
        rw [hA] at hA2
        cases hA2
        rw [(hM.ok r x hx).ty, Addr.add_add]
        exact hcell
      · cases hu
    · cases h
  · rename_i t e
    cases h
    have hv : V = .slice none 0 0 := hv
    subst hv
    exact ⟨⟨none, 0, rfl, Nat.le_refl _, fun j u hu => by simp [cellsL] at hu⟩, .inr (.inr ⟨t, e, rfl, rfl⟩)⟩
  · cases h
end
end Go.Ev

/- Each operation that the evaluator knows does what it says: structs that are built, stores, new rows. -/
namespace Go.Ev
open Go.RowKit
theorem foldl_set (off : Nat) : ∀ (vs : List Value) (k : Nat) (cs : Array Value), off + k + vs.length ≤ cs.size →
    ((vs.zipIdx k).foldl (fun cs p => cs.setIfInBounds (off + p.2) p.1) cs).toList = cs.toList.take (off + k) ++ vs ++ cs.toList.drop (off + k + vs.length)
  | [], k, cs, _ => by simp
  | v :: vs, k, cs, h => by
    have h' : off + (k + 1) + vs.length ≤ (cs.setIfInBounds (off + k) v).size := by simp at h ⊢; omega
    rw [List.zipIdx_cons, List.foldl_cons, foldl_set off vs (k + 1) _ h', Array.toList_setIfInBounds]
    have hlt : off + k < cs.toList.length := by simp at h ⊢; omega
    rw [List.length_cons, show off + (k + 1) = off + k + 1 by omega, show off + k + (vs.length + 1) = off + k + 1 + vs.length by omega, List.drop_set_of_lt (by omega)]
    have e1 : (cs.toList.set (off + k) v).take (off + k + 1) = cs.toList.take (off + k) ++ [v] := by
      rw [List.take_add_one]
      simp [List.take_set_of_le, List.getElem?_set_self hlt]
    rw [e1]
    simp [List.append_assoc]
theorem fill_one {place : Nat → Option (Nat × Nat)} {cells : Array Value} {i off size : Nat} {v : Value} {rest : List (Nat × Value)} (hp : place i = some (off, size)) (hs : v.cells.size = size) (hf : off + size ≤ cells.size) :
    Instr.fill place cells ((i, v) :: rest) = Instr.fill place (cells.toList.take off ++ v.cells.toList ++ cells.toList.drop (off + size)).toArray rest := by
  rw [Instr.fill]
  simp only [hp]
  rw [if_neg (by simp [hs]; omega)]
  congr 1
  apply Array.ext'
  have := foldl_set off v.cells.toList 0 cells (by simp; omega)
  simp only [Nat.add_zero, Array.length_toList, hs] at this
  rw [← this, ← Array.foldl_toList]
  simp only [Array.toList_zipIdx]
section
variable {C : Ctx} {rw : RW} {ε : Env} {w : World} {g : Nat → Option AV} {a : Act} {o : Oper} {R : Type}
theorem fill_put (hS : Slots rw ε g a) {t : Ty} {place : Nat → Option (Nat × Nat)} (hp : ∀ j s, t.fld j = some s → place j = some (t.off j, s.sz)) : ∀ (ps : List (Nat × Operand)) (x z : t.den), buildT C.T g t ps x = some z →
    Instr.fill place (t.cells x).toArray (ps.map fun p => (p.1, a.eval p.2)) = some (t.cells z).toArray
  | [], x, z, h => by cases h; rfl
  | (j, o) :: ps, x, z, h => by
    unfold buildT at h
    split at h
    · rename_i s y hy
      split at h
      · rename_i x' hx'
        have hv : a.eval o = s.val y := opd_rel hS hy
        have hf := t.put_fld j x s y x' hx'
        have hsz := t.off_sz j s hf
        rw [List.map_cons, hv, fill_one (hp j s hf) (by rw [s.val_cells]; simp [s.cells_length]) (by simp [t.cells_length]; exact hsz)]
        have ih := fill_put hS hp ps x' z h
        rw [t.put_cells j x s y x' hx'] at ih
        rw [s.val_cells]
        exact ih
      · cases h
    · cases h
theorem mapM_all {α β : Type} {f : α → Option β} : ∀ (l : List α), (∀ x ∈ l, ∃ y, f x = some y) → ∃ ys, l.mapM f = some ys ∧ ∀ j : Nat, ys[j]? = (l[j]?).bind f
  | [], _ => ⟨[], rfl, fun j => by simp⟩
  | x :: l, h => by
    obtain ⟨y, hy⟩ := h x (by simp)
    obtain ⟨ys, hys, hj⟩ := mapM_all l (fun x hx => h x (by simp [hx]))
    refine ⟨y :: ys, by simp [List.mapM_cons, hy, hys], fun j => ?_⟩
    cases j with
    | zero => simp [hy]
    | succ j => simpa using hj j
theorem good_build (hC : CtxOk C) (hM : Mem C rw ε w) (hS : Slots rw ε g a) {n : TypeId} {ps : Array (Nat × Operand)} (ho : o.op = .build n ps) {t : Ty} (ht : C.T.ty n = some t) (hst : t.isStruct = true) {z : t.den} (hz : buildT C.T g t ps.toList t.zero = some z) : Good C rw ε a w o (.v t z) [] := by
  obtain ⟨hsz, hund⟩ := hC.tab.ty _ _ ht
  obtain ⟨fs, hu, hf⟩ := und_struct' hund hst
  obtain ⟨i, hi, hzero, hisz, _⟩ := info_of hsz
  obtain ⟨places, hpl, hpj⟩ := mapM_all (f := fun f : Field => (C.P.info? f.type).map fun i => (f.offset, i.size)) fs.toList (fun f hfm => by
    obtain ⟨j, hj⟩ := List.mem_iff_getElem?.1 hfm
    have hj' : fs[j]? = some f := by simpa using hj
    obtain ⟨s, hs⟩ := hf.2 j f hj'
    obtain ⟨f', hf', _, hs', _⟩ := hf.1 j s hs
    rw [hj'] at hf'
    cases hf'
    obtain ⟨i', hi', _⟩ := info_of hs'
    exact ⟨_, by rw [hi']; rfl⟩)
  have hplace : ∀ j s, t.fld j = some s → (fun x => places.toArray[x]?) j = some (t.off j, s.sz) := by
    intro j s hs
    obtain ⟨f, hf', hoff, hs', _⟩ := hf.1 j s hs
    obtain ⟨i', hi', _, hsz', _⟩ := info_of hs'
    have := hpj j
    simp only [Array.getElem?_toList, hf', Option.bind_some, hi', Option.map_some, hoff, hsz'] at this
    simpa using this
  have hfill := fill_put (C := C) hS hplace ps.toList t.zero z hz
  have hb : C.P.built n (ps.map fun (i, x) => (i, a.eval x)).toList = some (t.cells z).toArray := by
    unfold Program.built
    simp only [hi, hu, hzero, hpl, t.val_cells]
    rw [Array.toList_map]
    exact hfill
  refine good_pure hM (V := t.val z) ?_ rfl
  have hrun := run_build (P := C.P) w n (ps.map fun (i, x) => (i, a.eval x)) _ hb
  simp [execOp, ho, hrun, t.val_struct z hst, Result.andThen]
/-! ### stores -/
theorem own_store {P : Program} {e : TypeId} {size n cap g' : Nat} {XS : List Value} (h : w.ownsRow 0 e size (.slice (some ⟨g', 0, none⟩) n cap) n XS) (off : Nat) (vs : List Value) (hl : off + vs.length ≤ n * size) (h1 : ∀ u ∈ vs, u.oneCell' = true) :
    ∃ w', (storeCells ⟨g', off, none⟩ vs).run P w = .ok () w' ∧ w'.ownsRow 0 e size (.slice (some ⟨g', 0, none⟩) n cap) n (XS.take off ++ vs ++ XS.drop (off + vs.length)) ∧ Pres (fun k => k = g') w w' := by
  rcases h.2 with ⟨h', _⟩ | ⟨g'', cap', cur, h', hb, hg, hnc, hcm, hcs, htake⟩
  · simp at h'
  · simp only [Value.slice.injEq, Option.some.injEq, Addr.mk.injEq, and_true, true_and] at h'
    obtain ⟨rfl, rfl⟩ := h'
    have hle : n * size ≤ cap * size := Nat.mul_le_mul_right _ hnc
    have hcur : cur.toList.length = cap * size := by rw [Array.length_toList, hcs]
    have hrun := run_storeCells_at P g' off e vs 0 cur w hg (by omega) h1
    simp only [Nat.add_zero] at hrun
    refine ⟨_, hrun, ⟨?_, .inr ⟨g', cap, _, rfl, hb, setRow_heap w g' cur _ e _ hg, hnc, hcm, ?_, ?_⟩⟩, ⟨rfl, rfl, rfl, by simp, fun k _ hk => setRow_other w g' k _ hk⟩⟩
    · have := h.1
      simp; omega
    · simp; omega
    · have hsplit : cur.toList = XS ++ cur.toList.drop (n * size) := by rw [← htake, List.take_append_drop]
      have hXS := h.1
      generalize cur.toList.drop (n * size) = rest at hsplit
      rw [hsplit]
      simp only [List.take_append_of_le_length (show off ≤ XS.length by omega), List.drop_append_of_le_length (show off + vs.length ≤ XS.length by omega)]
      rw [← List.append_assoc]
      rw [List.take_left']
      simp; omega
theorem run_storeVar {P : Program} {n : TypeId} {t : Ty} (h : SzOk P n t) (w w' : World) (ad : Addr) (x : t.den) (hr : (storeCells ad (t.cells x)).run P w = .ok () w') : (storeVar n ad (t.val x)).run P w = .ok () w' := by
  simp [storeVar, t.val_cells, run_sizeOf h, t.cells_length, hr, Result.andThen]
/-- A row that is stored into. -/
theorem own_form {t : Ty} {e : TypeId} {xs : List t.den} {ad : Addr} {n c : Nat} (h : OwnV w t e xs (.slice (some ad) n c)) : ∃ g', ad = ⟨g', 0, none⟩ ∧ n = xs.length := by
  rcases h.2 with ⟨h', _⟩ | ⟨g'', cap', cur, h', _⟩
  · simp at h'
  · injection h' with h1 h2 h3
    cases h1
    exact ⟨g'', rfl, h2⟩
theorem good_store (hC : CtxOk C) (hM : Mem C rw ε w) {s : TypeId} {x v : Operand} (ho : o.op = .store s x v) {ty : Ty} (ht : C.T.ty s = some ty) {y : Row} {r : Nat} {i : Int} (hx : VRel rw ε (.ptr r i) (a.eval x)) (hy : row rw r = some y) (hown : y.own = true) (he : ty = y.t) {z : y.t.den} (hv : a.eval v = y.t.val z) :
    Good C rw ε a w o .u [(r, some ⟨y.t, y.e, true, y.xs.set i.toNat z⟩)] := by
  subst he
  obtain ⟨hu, ad, n, c, hsv, h0, h1, hV⟩ := hx
  obtain ⟨ho1, hmine⟩ := (hM.ok r y hy).own hown
  have ho2 := ho1
  rw [hsv] at ho2
  obtain ⟨g', rfl, rfl⟩ := own_form ho2
  have hi : i.toNat < y.xs.length := by omega
  obtain ⟨w', hrun, hown', hpres⟩ := own_store (P := C.P) ho2 (i.toNat * y.t.sz) (y.t.cells z) (by
    rw [y.t.cells_length, ← Nat.succ_mul]
    exact Nat.mul_le_mul_right _ hi) (y.t.cells_one z)
  rw [y.t.cells_length, ← cellsL_set _ _ _ hi] at hown'
  rw [(hM.ok r y hy).ty, Addr.add_lit, Nat.zero_add] at hV
  intro next Q h
  refine wp_skipV (w' := w') ?_ (h undef ε w' rfl ext_set (mem_set hC hM hy hown ?_ ?_))
  · have := run_storeVar (hC.tab.ty _ _ ht).1 w w' ⟨g', i.toNat * y.t.sz, none⟩ z hrun
    simp [execOp, ho, hV, hv, Instr.storeAt, Instr.sureAddr, this, Result.andThen]
  · refine hpres.mono (fun k _ hk => ?_)
    rw [hsv, hk]
    rfl
  · rw [hsv]
    show w'.ownsRow 0 y.e y.t.sz _ (y.xs.set i.toNat z).length _
    rw [List.length_set]
    exact hown'
theorem good_fstore (hC : CtxOk C) (hM : Mem C rw ε w) {s : TypeId} {x v : Operand} (ho : o.op = .store s x v) {ty : Ty} (ht : C.T.ty s = some ty) {y : Row} {r : Nat} {i : Int} {j : Nat} (hx : VRel rw ε (.fptr r i j) (a.eval x)) (hy : row rw r = some y) (hown : y.own = true) {z : ty.den} (hv : a.eval v = ty.val z)
    {q : y.t.den} (hq : y.t.put j (nth y.t y.xs i) ty z = some q) : Good C rw ε a w o .u [(r, some ⟨y.t, y.e, true, y.xs.set i.toNat q⟩)] := by
  obtain ⟨hu, ad, n, c, f, hsv, h0, h1, hf, hV⟩ := hx
  obtain ⟨ho1, hmine⟩ := (hM.ok r y hy).own hown
  have ho2 := ho1
  rw [hsv] at ho2
  obtain ⟨g', rfl, rfl⟩ := own_form ho2
  have hi : i.toNat < y.xs.length := by omega
  have hfld := y.t.put_fld j _ ty z q hq
  have hsz := y.t.off_sz j ty hfld
  have hput := y.t.put_cells j _ ty z q hq
  have hle : (i.toNat + 1) * y.t.sz ≤ y.xs.length * y.t.sz := Nat.mul_le_mul_right _ hi
  rw [Nat.add_mul, Nat.one_mul] at hle
  obtain ⟨w', hrun, hown', hpres⟩ := own_store (P := C.P) ho2 (i.toNat * y.t.sz + y.t.off j) (ty.cells z) (by
    rw [ty.cells_length]
    omega) (ty.cells_one z)
  have hcs : (cellsL y.t y.xs).take (i.toNat * y.t.sz + y.t.off j) ++ ty.cells z ++ (cellsL y.t y.xs).drop (i.toNat * y.t.sz + y.t.off j + (ty.cells z).length) = cellsL y.t (y.xs.set i.toNat q) := by
    rw [cellsL_set _ _ _ hi, hput, ty.cells_length, nth_eq _ _ _ hi, ← cellsL_at _ _ _ hi]
    generalize cellsL y.t y.xs = L at *
    rw [List.take_add, List.take_take, Nat.min_eq_left (by omega), List.drop_take, List.drop_drop]
    have e2 : L.drop (i.toNat * y.t.sz + y.t.off j + ty.sz) = (L.drop (i.toNat * y.t.sz + (y.t.off j + ty.sz))).take (y.t.sz - (y.t.off j + ty.sz)) ++ L.drop (i.toNat * y.t.sz + y.t.sz) := by
      rw [show L.drop (i.toNat * y.t.sz + y.t.sz) = (L.drop (i.toNat * y.t.sz + (y.t.off j + ty.sz))).drop (y.t.sz - (y.t.off j + ty.sz)) by rw [List.drop_drop]; congr 1; omega, List.take_append_drop]
      congr 1
      omega
    rw [e2]
    simp [List.append_assoc]
  rw [hcs] at hown'
  rw [(hM.ok r y hy).ty, Addr.add_lit, Nat.zero_add] at hV
  intro next Q h
  refine wp_skipV (w' := w') ?_ (h undef ε w' rfl ext_set (mem_set hC hM hy hown ?_ ?_))
  · have := run_storeVar (hC.tab.ty _ _ ht).1 w w' ⟨g', i.toNat * y.t.sz + y.t.off j, none⟩ z hrun
    simp [execOp, ho, hV, hv, Instr.storeAt, Instr.sureAddr, this, Result.andThen]
  · refine hpres.mono (fun k _ hk => ?_)
    rw [hsv, hk]
    rfl
  · rw [hsv]
    show w'.ownsRow 0 y.e y.t.sz _ (y.xs.set i.toNat q).length _
    rw [List.length_set]
    exact hown'
end
end Go.Ev

