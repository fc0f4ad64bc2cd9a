import Derived.Laws.OwnMore
import Derived.Laws.IdiomStrings
import Derived.Laws.Cover4
import Derived.Laws.Slices
import Derived.Laws.Concat
import Derived.Laws.Entries
import Derived.DataElems
import Derived.Orders
import Derived.Tactics
import Derived.OneCell
import Derived.KernelRfl
import Derived.Laws.FloatArith
import Derived.Laws.MakeOwn
import Derived.Maps.AppendAt
import Derived.Laws.StructEq
import Derived.Laws.Cover3
import Derived.Laws.Tables
import Derived.Laws.Strings2
import Derived.Laws.Runes
import Derived.Lib.AppendStr
import Derived.Lib.ConvBytes
import Derived.Laws.BytesString
/- An evaluator of the model that knows a heap, and that it is sound: part 1 of 4. -/
set_option linter.unusedVariables false
set_option linter.unusedSimpArgs false
/-
An evaluator of the model's code on typed states: the definitions.
-/
namespace Go.Ev
/-- A struct's fields stand in line, the last one as 'one'. -/
inductive Ty where
  | int (k : IntKind) | bool | str | flt | nils | nile | one (a : Ty) | pair (a b : Ty)
@[reducible] def Ty.den : Ty → Type
  | .int _ => Int | .bool => Bool | .str => ByteArray | .flt => Nat | .nils => Unit | .nile => Unit | .one a => a.den | .pair a b => a.den × b.den
def Ty.sz : Ty → Nat
  | .one a => a.sz | .pair a b => a.sz + b.sz | _ => 1
def Ty.zero : (t : Ty) → t.den
  | .int _ => (0 : Int) | .bool => false | .str => (⟨#[]⟩ : ByteArray) | .flt => (0 : Nat) | .nils => () | .nile => () | .one a => a.zero | .pair a b => (a.zero, b.zero)
def Ty.cells : (t : Ty) → t.den → List Value
  | .int k, n => [.int k n] | .bool, b => [.bool b] | .str, s => [.string s] | .flt, n => [.float .f64 n] | .nils, _ => [.slice none 0 0] | .nile, _ => [.nilIface]
  | .one a, x => a.cells x | .pair a b, x => a.cells x.1 ++ b.cells x.2
def Ty.val : (t : Ty) → t.den → Value
  | .int k, n => .int k n | .bool, b => .bool b | .str, s => .string s | .flt, n => .float .f64 n | .nils, _ => .slice none 0 0 | .nile, _ => .nilIface
  | .one a, x => .agg (a.cells x).toArray | .pair a b, x => .agg (a.cells x.1 ++ b.cells x.2).toArray
def Ty.isStruct : Ty → Bool
  | .one _ | .pair _ _ => true
  | _ => false
def kbeq : IntKind → IntKind → Bool
  | .i8, .i8 | .i16, .i16 | .i32, .i32 | .i64, .i64 | .u8, .u8 | .u16, .u16 | .u32, .u32 | .u64, .u64 => true
  | _, _ => false
theorem kbeq_eq : ∀ {j k : IntKind}, kbeq j k = true → j = k := by
  intro j k; cases j <;> cases k <;> first | (intro; rfl) | (intro h; cases h)
def Ty.beq : Ty → Ty → Bool
  | .int j, .int k => kbeq j k
  | .bool, .bool | .str, .str | .flt, .flt | .nils, .nils | .nile, .nile => true
  | .one a, .one b => a.beq b
  | .pair a b, .pair c d => a.beq c && b.beq d
  | _, _ => false
theorem Ty.beq_eq : ∀ {s t : Ty}, s.beq t = true → s = t
  | .int j, t, h => by cases t <;> first | cases h | rw [kbeq_eq h]
  | .bool, t, h => by cases t <;> first | rfl | cases h
  | .str, t, h => by cases t <;> first | rfl | cases h
  | .flt, t, h => by cases t <;> first | rfl | cases h
  | .nils, t, h => by cases t <;> first | rfl | cases h
  | .nile, t, h => by cases t <;> first | rfl | cases h
  | .one a, t, h => by cases t <;> first | cases h | rw [Ty.beq_eq (s := a) h]
  | .pair a b, t, h => by
    cases t <;> first | cases h | skip
    rename_i c d
    have h' : (a.beq c && b.beq d) = true := h
    rw [Bool.and_eq_true] at h'
    rw [Ty.beq_eq h'.1, Ty.beq_eq h'.2]
/-- Something of a type family, at another type if it is the same. -/
def cast? {F : Ty → Type} (s t : Ty) (x : F s) : Option (F t) := if h : s.beq t = true then some (Ty.beq_eq h ▸ x) else none
/-- A field: its type, its place, itself; another one put. -/
def Ty.fld : Ty → Nat → Option Ty
  | .one a, 0 => some a
  | .pair a _, 0 => some a
  | .pair _ b, j + 1 => b.fld j
  | _, _ => none
def Ty.off : Ty → Nat → Nat
  | .pair a b, j + 1 => a.sz + b.off j
  | _, _ => 0
def Ty.get : (t : Ty) → Nat → t.den → (s : Ty) × s.den
  | .one a, _, x => ⟨a, x⟩
  | .pair a _, 0, x => ⟨a, x.1⟩
  | .pair _ b, j + 1, x => b.get j x.2
  | t, _, x => ⟨t, x⟩
def Ty.put : (t : Ty) → Nat → t.den → (s : Ty) → s.den → Option t.den
  | .one a, 0, _, s, y => cast? (F := Ty.den) s a y
  | .pair a _, 0, x, s, y => (match cast? (F := Ty.den) s a y with
      | some z => some (z, x.2)
      | none => none)
  | .pair _ b, j + 1, x, s, y => (match b.put j x.2 s y with
      | some z => some (x.1, z)
      | none => none)
  | _, _, _, _, _ => none
def cellsL (t : Ty) (xs : List t.den) : List Value := (xs.map t.cells).flatten
/-- The code points of a text, as '[]rune(s)' has them; the text of code points. -/
def intsOf (l : List Value) : List Int := l.map fun v => match v with | .int _ n => n | _ => 0
def runesI (s : ByteArray) : List Int := intsOf (Conv.runesFrom s s.size 0 #[]).toList
def strOfRunes (l : List Int) : ByteArray := runesBytes l
/-- The bytes of a text, as numbers; the text of bytes. -/
def bytesI (s : ByteArray) : List Int := s.data.toList.map fun b => (b.toNat : Int)
def strOfBytes (l : List Int) : ByteArray := ⟨(l.map fun n => UInt8.ofNat n.toNat).toArray⟩
def bt (s : ByteArray) (i : Int) : Int := if h : i.toNat < s.size then ((s[i.toNat]'h).toNat : Int) else 0
/-! ### the heap: objects that have names -/
/-- A slice in the heap: a name, the cell that it begins with, how many elements there are. -/
inductive Rf where
  | nil | at (n k len : Nat)
/-- An address: a name, a cell. -/
inductive Pf where
  | nil | at (n o : Nat)
/-- A value of an interface type: its type, what it holds. -/
inductive If where
  | nil | sl (t : TypeId) (r : Rf) | pt (t : TypeId) (p : Pf) | two (t : TypeId) (a b : Rf)
inductive Cell where
  | v (u : Value) | sr (r : Rf) | pr (p : Pf) | ir (i : If)
inductive Obj where
  | cells (e : TypeId) (sz : Nat) (cs : List Cell)
  | iter (s : ByteArray) (pos : Nat)
  | ro (cs : List Cell)                          -- to be read only
/-- The heap: nx: the next name. -/
structure Hp where
  nx : Nat
  ob : Nat → Option Obj
def Hp.empty : Hp := ⟨0, fun _ => none⟩
/-- An object's cells. -/
def Hp.cl (h : Hp) (n : Nat) : Option (List Cell) := match h.ob n with
  | some (.cells _ _ cs) => some cs
  | some (.ro cs) => some cs
  | _ => none
def Hp.set (h : Hp) (n : Nat) (o : Option Obj) : Hp := ⟨h.nx, fun m => bif Nat.beq m n then o else h.ob m⟩
def Hp.push (h : Hp) (o : Obj) : Hp := ⟨Nat.succ h.nx, fun m => bif Nat.beq m h.nx then some o else h.ob m⟩
/-- Types of values that may tell of the heap. -/
inductive HTy where
  | p (t : Ty) | sr | pr | ir | one (a : HTy) | pair (a b : HTy)
@[reducible] def HTy.den : HTy → Type
  | .p t => t.den | .sr => Rf | .pr => Pf | .ir => If | .one a => a.den | .pair a b => a.den × b.den
def HTy.sz : HTy → Nat
  | .p t => t.sz | .one a => a.sz | .pair a b => a.sz + b.sz | _ => 1
def HTy.zero : (t : HTy) → t.den
  | .p t => t.zero | .sr => Rf.nil | .pr => Pf.nil | .ir => If.nil | .one a => a.zero | .pair a b => (a.zero, b.zero)
def HTy.isStruct : HTy → Bool
  | .p t => t.isStruct
  | .one _ | .pair _ _ => true
  | _ => false
def HTy.beq : HTy → HTy → Bool
  | .p s, .p t => s.beq t
  | .sr, .sr | .pr, .pr | .ir, .ir => true
  | .one a, .one b => a.beq b
  | .pair a b, .pair c d => a.beq c && b.beq d
  | _, _ => false
theorem HTy.beq_eq : ∀ {s t : HTy}, s.beq t = true → s = t
  | .p s, t, h => by cases t <;> first | cases h | rw [Ty.beq_eq (s := s) h]
  | .sr, t, h => by cases t <;> first | rfl | cases h
  | .pr, t, h => by cases t <;> first | rfl | cases h
  | .ir, t, h => by cases t <;> first | rfl | cases h
  | .one a, t, h => by cases t <;> first | cases h | rw [HTy.beq_eq (s := a) h]
  | .pair a b, t, h => by
    cases t <;> first | cases h | skip
    rename_i c d
    have h' : (a.beq c && b.beq d) = true := h
    rw [Bool.and_eq_true] at h'
    rw [HTy.beq_eq h'.1, HTy.beq_eq h'.2]
def castH {F : HTy → Type} (s t : HTy) (x : F s) : Option (F t) := if h : s.beq t = true then some (HTy.beq_eq h ▸ x) else none
def HTy.fld : HTy → Nat → Option HTy
  | .p t, j => (match t.fld j with
    | some s => some (.p s)
    | none => none)
  | .one a, 0 => some a
  | .pair a _, 0 => some a
  | .pair _ b, j + 1 => b.fld j
  | _, _ => none
def HTy.off : HTy → Nat → Nat
  | .p t, j => t.off j
  | .pair a b, j + 1 => a.sz + b.off j
  | _, _ => 0
def HTy.get : (t : HTy) → Nat → t.den → (s : HTy) × s.den
  | .p t, j, x => ⟨.p (t.get j x).1, (t.get j x).2⟩
  | .one a, _, x => ⟨a, x⟩
  | .pair a _, 0, x => ⟨a, x.1⟩
  | .pair _ b, j + 1, x => b.get j x.2
  | t, _, x => ⟨t, x⟩
def HTy.put : (t : HTy) → Nat → t.den → (s : HTy) → s.den → Option t.den
  | .one a, 0, _, s, y => castH (F := HTy.den) s a y
  | .pair a _, 0, x, s, y => (match castH (F := HTy.den) s a y with
      | some z => some (z, x.2)
      | none => none)
  | .pair _ b, j + 1, x, s, y => (match b.put j x.2 s y with
      | some z => some (x.1, z)
      | none => none)
  | _, _, _, _, _ => none
/-- The cells of a value. -/
def HTy.cc : (t : HTy) → t.den → List Cell
  | .p t, x => (t.cells x).map .v
  | .sr, r => [.sr r] | .pr, q => [.pr q] | .ir, i => [.ir i]
  | .one a, x => a.cc x | .pair a b, x => a.cc x.1 ++ b.cc x.2
def decInt (k : IntKind) : List Value → Option Int
  | [.int j n] => bif kbeq k j then some n else none
  | _ => none
def decBool : List Value → Option Bool
  | [.bool b] => some b
  | _ => none
def decStr : List Value → Option ByteArray
  | [.string s] => some s
  | _ => none
def decFlt : List Value → Option Nat
  | [.float .f64 n] => some n
  | _ => none
def decNils : List Value → Option Unit
  | [.slice none 0 0] => some ()
  | _ => none
def decNile : List Value → Option Unit
  | [.nilIface] => some ()
  | _ => none
def Ty.dec : (t : Ty) → List Value → Option t.den
  | .int k, l => decInt k l
  | .bool, l => decBool l
  | .str, l => decStr l
  | .flt, l => decFlt l
  | .nils, l => decNils l
  | .nile, l => decNile l
  | .one a, l => a.dec l
  | .pair a b, l => (match a.dec (l.take a.sz), b.dec (l.drop a.sz) with
    | some x, some y => some (x, y)
    | _, _ => none)
def vals : List Cell → Option (List Value)
  | [] => some []
  | .v u :: l => (match vals l with
    | some m => some (u :: m)
    | none => none)
  | _ :: _ => none
def decSr : List Cell → Option Rf
  | [.sr r] => some r
  | _ => none
def decPr : List Cell → Option Pf
  | [.pr q] => some q
  | _ => none
def decIr : List Cell → Option If
  | [.ir i] => some i
  | _ => none
def HTy.dec : (t : HTy) → List Cell → Option t.den
  | .p t, l => (match vals l with
    | some m => t.dec m
    | none => none)
  | .sr, l => decSr l
  | .pr, l => decPr l
  | .ir, l => decIr l
  | .one a, l => a.dec l
  | .pair a b, l => (match a.dec (l.take a.sz), b.dec (l.drop a.sz) with
    | some x, some y => some (x, y)
    | _, _ => none)
def decL (t : HTy) : Nat → List Cell → Option (List t.den)
  | 0, _ => some []
  | n + 1, l => (match t.dec (l.take t.sz), decL t n (l.drop t.sz) with
    | some x, some xs => some (x :: xs)
    | _, _ => none)
/-- A variable read, and written. -/
def Hp.ld (h : Hp) (t : HTy) : Pf → Option t.den
  | .at n o => (match h.cl n with
    | some cs => bif Nat.ble (o + t.sz) cs.length then t.dec ((cs.drop o).take t.sz) else none
    | _ => none)
  | .nil => none
def Hp.st (h : Hp) (t : HTy) (p : Pf) (x : t.den) : Option Hp := match p with
  | .at n o => (match h.ob n with
    | some (.cells e z cs) => bif Nat.ble (o + t.sz) cs.length then some (h.set n (some (.cells e z (cs.take o ++ t.cc x ++ cs.drop (o + t.sz))))) else none
    | _ => none)
  | .nil => none
/-- The list that a slice tells. -/
def Hp.rd (h : Hp) (t : Ty) : Rf → Option (List t.den)
  | .nil => some []
  | .at n k len => (match h.cl n with
    | some cs => bif Nat.ble (k + len * t.sz) cs.length then decL (.p t) len (cs.drop k) else none
    | _ => none)
/-- New objects. -/
def Hp.box (h : Hp) (e : TypeId) (t : HTy) (x : t.den) : Hp := h.push (.cells e t.sz (t.cc x))
def Hp.new (h : Hp) (e : TypeId) (t : HTy) (xs : List t.den) : Hp := h.push (.cells e t.sz (xs.map t.cc).flatten)
/-- What is appended is written in place where the object has it, and otherwise takes the object's place. -/
def Hp.app (h : Hp) (e : TypeId) (z : Nat) (ys : List Cell) (m : Nat) : Rf → Option (Rf × Hp)
  | .nil => (match m with
    | 0 => some (.nil, h)
    | m => some (.at h.nx 0 m, h.push (.cells e z ys)))
  | .at n k len => (match h.ob n with
    | some (.cells e' z' cs) => bif Nat.beq e e' && Nat.beq z z' && Nat.ble (k + len * z) cs.length then
        (bif Nat.ble (k + (len + m) * z) cs.length && (Nat.beq k 0 || Nat.beq z 1) then some (.at n k (len + m), h.set n (some (.cells e z (cs.take (k + len * z) ++ ys ++ cs.drop (k + (len + m) * z)))))
        else bif Nat.beq k 0 then some (.at h.nx 0 (len + m), (h.set n none).push (.cells e z (cs.take (len * z) ++ ys))) else none) else none
    | _ => none)
/-- The cells that a slice tells, and how many elements. -/
def Hp.cs (h : Hp) (z : Nat) : Rf → Option (List Cell × Nat)
  | .nil => some ([], 0)
  | .at n k len => (match h.cl n with
    | some cs => bif Nat.ble (k + len * z) cs.length then some ((cs.drop k).take (len * z), len) else none
    | _ => none)
/-- What is appended to a slice whose capacity is known goes to a new object, if there is no room. -/
def Hp.apc (h : Hp) (e : TypeId) (z : Nat) (ys : List Cell) (m : Nat) (r : Rf) (c : Nat) : Option (Rf × Hp) := match h.cs z r with
  | some (ps, n) => (match n + m with
    | 0 => some (.at h.nx 0 0, h.push (.ro []))
    | k + 1 => bif Nat.ble (k + 1) c then none else some (.at h.nx 0 (k + 1), h.push (.cells e z (ps ++ ys))))
  | none => none
def rlen : Rf → Nat
  | .nil => 0
  | .at _ _ len => len
def radr (z : Nat) (i : Nat) : Rf → Pf
  | .nil => .nil
  | .at n k _ => .at n (k + i * z)
def rcut (z lo hi : Nat) : Rf → Rf
  | .nil => .nil
  | .at n k _ => .at n (k + lo * z) (hi - lo)
def rnil : Rf → Bool
  | .nil => true
  | .at _ _ _ => false
def roBytes (s : ByteArray) : List Cell := (bytesI s).map fun n => .v (.int .u8 n)
/-- Is it known whether it is nil? -/
def rsure : Rf → Bool
  | .nil => true
  | .at _ _ len => Nat.blt 0 len
def padd (j : Nat) : Pf → Pf
  | .nil => .nil
  | .at n o => .at n (o + j)
def pnil : Pf → Bool
  | .nil => true
  | .at _ _ => false
def inil : If → Bool
  | .nil => true
  | _ => false
def if2 (t : TypeId) : If → Option (Rf × Rf)
  | .two s a b => bif Nat.beq s t then some (a, b) else none
  | _ => none
def ifs (t : TypeId) : If → Option Rf
  | .sl s a => bif Nat.beq s t then some a else none
  | _ => none
def ifp (t : TypeId) : If → Option Pf
  | .pt s a => bif Nat.beq s t then some a else none
  | _ => none
/-- A text that is ranged over: is there more, and the next character. -/
def Hp.more (h : Hp) : Pf → Option Bool
  | .at n 0 => (match h.ob n with
    | some (.iter s pos) => some (Nat.blt pos s.size)
    | _ => none)
  | _ => none
def Hp.nxt (h : Hp) : Pf → Option (Int × Int × Hp)
  | .at n 0 => (match h.ob n with
    | some (.iter s pos) => some ((pos : Int), (Utf8.decode s pos).1, h.set n (some (.iter s (pos + (Utf8.decode s pos).2))))
    | _ => none)
  | _ => none
/-- A part of a result. -/
inductive AC where
  | v (t : Ty) (x : t.den) | sl (r : Nat) | pt (r : Nat) | h (t : HTy) (x : t.den)
/-- What a temporary may hold. A row has a name. -/
inductive AV where
  | v (t : Ty) (x : t.den)
  | sl (r : Nat)                                 -- a whole row
  | cut (r : Nat) (p : Bool) (lo hi : Int)       -- a part of a row; p: from its beginning on
  | ptr (r : Nat) (i : Int)                      -- an element's address
  | fptr (r : Nat) (i : Int) (j : Nat)           -- a field's address
  | op                                           -- a value of which nothing is known
  | nilS (t : Ty) (e : TypeId)
  | nilP
  | u
  | tup (l : List AC)
  | h (t : HTy) (x : t.den)                      -- a value that tells of the heap
  | hc (r : Rf) (c : Nat)                        -- a slice of the heap, to be read only; its capacity
  | fn (f : Nat) (caps : List Pf)                -- a function that is known, and the variables that it holds
  | ht (l : List AC)
structure Row where
  t : Ty
  e : TypeId
  own : Bool
  xs : List t.den
/-- What the names of rows stand for: none: never used; some none: gone. -/
abbrev RW := Nat → Option (Option Row)
def row (rw : RW) (r : Nat) : Option Row := match rw r with
  | some (some x) => some x
  | _ => none
structure St where
  sl : List (Nat × AV)
  rows : List (Nat × Option Row)
  hp : Hp
def look {α : Type} (l : List (Nat × α)) (n : Nat) : Option α := match l with
  | [] => none
  | (m, a) :: r => bif Nat.beq m n then some a else look r n
def set {α : Type} (l : List (Nat × α)) (n : Nat) (a : α) : List (Nat × α) := match l with
  | [] => [(n, a)]
  | (m, b) :: r => bif Nat.beq m n then (n, a) :: r else (m, b) :: set r n a
/-- A branch on a value that is not known. -/
def br {α : Type} (c : Bool) (a b : α) : α := cond c a b
/-- .. of which one way is none. -/
def chk {R : Type} (c : Bool) (a : Option R) : Option R := br c a none
abbrev Upd := List (Nat × Option Row)
def upd (l : List (Nat × Option Row)) : Upd → List (Nat × Option Row)
  | [] => l
  | (n, x) :: us => upd (set l n x) us
def updF (rw : RW) : Upd → RW
  | [] => rw
  | (n, x) :: us => updF (fun m => if m = n then some x else rw m) us
structure Tab where
  ty : TypeId → Option Ty
  sl : TypeId → Option (Ty × TypeId)
  eq : TypeId → Bool
  lt : Int → Int → Bool
  le : Int → Int → Bool
  eqI : Int → Int → Bool
  nle : Nat → Nat → Bool
  eqS : ByteArray → ByteArray → Bool
  i2f : Int → Nat
  f2iOk : IntKind → Nat → Bool
  f2i : IntKind → Nat → Int
  fo : Ordering → Nat → Nat → Bool
  faOk : BinOp → Nat → Nat → Bool
  fa : BinOp → Nat → Nat → Nat
  rd : FuncId → Bool
  hty : TypeId → Option HTy
  hsl : TypeId → Option (HTy × TypeId)
  hs : Nat → Bool
  cand : Nat → List FuncId
  meth : String → List (TypeId × FuncId)
/-- The table as one function has it: places that go to the heap and values that are called are named with the function's number. -/
def Tab.loc (T : Tab) (f : Nat) : Tab := { T with hs := fun d => T.hs (f * 65536 + d), cand := fun d => T.cand (f * 65536 + d) }
/-- What is handed to a function and comes from it. -/
inductive Par where
  | v (t : Ty) | op | read (t : Ty) (e : TypeId) | own (t : Ty) (e : TypeId) | pt (t : Ty) (e : TypeId) | hp | h (t : HTy) | fn
@[reducible] def Par.den : Par → Type
  | .v t => t.den | .op => Unit | .read t _ => List t.den | .own t _ => List t.den | .pt t _ => t.den | .hp => Hp | .h t => t.den | .fn => Nat × List Pf
@[reducible] def argL : List Par → Type
  | [] => Unit | p :: l => p.den × argL l
inductive RTy where
  | v (t : Ty) | sl (t : Ty) (e : TypeId) | pt (t : Ty) (e : TypeId) | hp | h (t : HTy)
@[reducible] def RTy.den : RTy → Type
  | .v t => t.den | .sl t _ => List t.den | .pt t _ => t.den | .hp => Hp | .h t => t.den
@[reducible] def retL : List RTy → Type
  | [] => Unit | [t] => t.den | t :: l => t.den × retL l
structure Sig where
  ps : List Par
  rs : List RTy
/-- A function to which no row is given away, and which gives back one row or one plain value. -/
def noOwn : List Par → Bool
  | [] => true
  | .own _ _ :: _ => false
  | _ :: l => noOwn l
def oneSl : List RTy → Bool
  | [.sl _ _] => true
  | [.v _] => true
  | _ => false
def rdSig (g : Sig) : Bool := noOwn g.ps && oneSl g.rs
/-- The heap stands ahead of the arguments, and of the results. -/
def hasHp : List Par → Bool
  | .hp :: _ => true
  | _ => false
def strip : List Par → List Par
  | .hp :: ps => ps
  | ps => ps
def stripA : (ps : List Par) → argL ps → argL (strip ps)
  | .hp :: _, x => x.2
  | [], x => x
  | .v _ :: _, x => x
  | .op :: _, x => x
  | .read _ _ :: _, x => x
  | .own _ _ :: _, x => x
  | .pt _ _ :: _, x => x
  | .h _ :: _, x => x
  | .fn :: _, x => x
def addH : (ps : List Par) → Hp → argL (strip ps) → argL ps
  | .hp :: _, h, x => (h, x)
  | [], _, x => x
  | .v _ :: _, _, x => x
  | .op :: _, _, x => x
  | .read _ _ :: _, _, x => x
  | .own _ _ :: _, _, x => x
  | .pt _ _ :: _, _, x => x
  | .h _ :: _, _, x => x
  | .fn :: _, _, x => x
def hpA : (ps : List Par) → argL ps → Hp
  | .hp :: _, x => x.1
  | _, _ => Hp.empty
def stripT : List RTy → List RTy
  | .hp :: rs => rs
  | rs => rs
def stripR : (rs : List RTy) → retL rs → retL (stripT rs)
  | [.hp], _ => ()
  | .hp :: _ :: _, x => x.2
  | [], x => x
  | [.v _], x => x
  | .v _ :: _ :: _, x => x
  | [.sl _ _], x => x
  | .sl _ _ :: _ :: _, x => x
  | [.pt _ _], x => x
  | .pt _ _ :: _ :: _, x => x
  | [.h _], x => x
  | .h _ :: _ :: _, x => x
def hpR : (rs : List RTy) → retL rs → Hp
  | [.hp], x => x
  | .hp :: _ :: _, x => x.1
  | _, _ => Hp.empty
/-- Results that do not tell of the heap. -/
def pureR : List RTy → Bool
  | [] => true
  | .hp :: _ => false
  | .h _ :: _ => false
  | _ :: l => pureR l
/-- 'copy': the list behind it. -/
def cpL {α : Type} (xs ys : List α) (lo n : Nat) : List α := xs.take lo ++ ys.take (Nat.min ys.length n) ++ xs.drop (lo + Nat.min ys.length n)
def nth (t : Ty) (xs : List t.den) (i : Int) : t.den := xs.getD i.toNat t.zero
section
/-- Equality of parts. -/
def eqB (T : Tab) : (t : Ty) → t.den → t.den → Option Bool
  | .int _, x, y => some (T.eqI x y)
  | .bool, x, y => some (x == y)
  | .str, x, y => some (T.eqS x y)
  | _, _, _ => none
def eqF (T : Tab) : (t : Ty) → t.den → t.den → Option Bool
  | .one a, x, y => eqB T a x y
  | .pair a b, x, y => (match eqB T a x.1 y.1, eqF T b x.2 y.2 with
    | some c, some d => some (c && d)
    | _, _ => none)
  | _, _, _ => none
variable (T : Tab) (sg : FuncId → Sig) (callF : (f : FuncId) → argL (sg f).ps → Option (retL (sg f).rs)) {R : Type}
def constV (ty : TypeId) : Value → Option AV
  | .int k n => some (.v (.int k) n)
  | .bool b => some (.v .bool b)
  | .string s => some (.v .str s)
  | .float .f64 n => some (.v .flt n)
  | .slice none 0 0 => (match T.sl ty with
    | some (t, e) => some (.nilS t e)
    | none => (match T.ty ty with
      | some .nils => some (.v .nils ())
      | _ => (match T.hty ty with
        | some .sr => some (.h .sr .nil)
        | _ => none)))
  | .pointer none => (match T.hty ty with
    | some .pr => some (.h .pr .nil)
    | _ => some .nilP)
  | .nilIface => (match T.ty ty with
    | some .nile => some (.v .nile ())
    | _ => (match T.hty ty with
      | some .ir => some (.h .ir .nil)
      | _ => none))
  | _ => none
def opd (g : Nat → Option AV) (ty : TypeId) : Operand → Option AV
  | .tmp t => g t
  | .const v => constV T ty v
  | .func f => some (.fn f [])
  | _ => none
def cmpI (o : BinOp) (x y : Int) : Option Bool := match o with
  | .eql => some (T.eqI x y) | .neq => some (!T.eqI x y) | .lss => some (T.lt x y) | .leq => some (T.le x y) | .gtr => some (T.lt y x) | .geq => some (T.le y x)
  | _ => none
def bitI (o : BinOp) (k : IntKind) (x y : Int) : Option Int := match o with
  | .and => some (k.wrap (BitVec.ofInt k.bits x &&& BitVec.ofInt k.bits y).toNat)
  | .or => some (k.wrap (BitVec.ofInt k.bits x ||| BitVec.ofInt k.bits y).toNat)
  | .xor => some (k.wrap (BitVec.ofInt k.bits x ^^^ BitVec.ofInt k.bits y).toNat)
  | .andNot => some (k.wrap (BitVec.ofInt k.bits x &&& ~~~BitVec.ofInt k.bits y).toNat)
  | _ => none
def arI (o : BinOp) (k : IntKind) (x y : Int) : Option Int := match o with
  | .add => some (k.wrap (x + y)) | .sub => some (k.wrap (x - y)) | .mul => some (k.wrap (x * y))
  | _ => none
def divI (o : BinOp) (k : IntKind) (x y : Int) : Option Int := match o with
  | .quo => some (k.wrap (x.tdiv y)) | .rem => some (x.tmod y)
  | _ => none
def shI (o : BinOp) (k : IntKind) (x y : Int) : Option Int := match o with
  | .shl => some (k.wrap (x * 2 ^ min y.toNat k.bits)) | .shr => some (x.fdiv (2 ^ min y.toNat k.bits))
  | _ => none
def cmpFl (o : BinOp) (x y : Nat) : Option Bool := match o with
  | .eql => some (T.fo .eq x y) | .neq => some (!T.fo .eq x y) | .lss => some (T.fo .lt x y) | .leq => some (T.fo .lt x y || T.fo .eq x y) | .gtr => some (T.fo .gt x y) | .geq => some (T.fo .gt x y || T.fo .eq x y)
  | _ => none
def cmpS (o : BinOp) (x y : ByteArray) : Option Bool := match o with
  | .eql => some (T.eqS x y) | .neq => some (!T.eqS x y)
  | .lss => some (Op.bytesLess x.toList y.toList) | .leq => some (Op.bytesLess x.toList y.toList || T.eqS x y)
  | .gtr => some (!(Op.bytesLess x.toList y.toList || T.eqS x y)) | .geq => some (!Op.bytesLess x.toList y.toList)
  | _ => none
def isC : Operand → Bool
  | .const _ => true
  | _ => false
def binV (nc : Bool) (xt : TypeId) (o : BinOp) (a b : AV) (K : AV → Option R) : Option R :=
  match a, b with
  | .v (.int k) x, .v (.int j) y => (match shI o k x y with
    | some n => chk (T.le 0 y) (K (.v (.int k) n))
    | none => bif kbeq k j then (match cmpI T o x y with
      | some c => K (.v .bool c)
      | none => match arI o k x y with
        | some n => K (.v (.int k) n)
        | none => match divI o k x y with
          | some n => chk (!T.eqI y 0) (K (.v (.int k) n))
          | none => match bitI o k x y with
            | some n => K (.v (.int k) n)
            | none => none) else none)
  | .v .str x, .v .str y => (match cmpS T o x y with
      | some c => K (.v .bool c)
      | none => match o with
        | .add => chk (T.nle (ByteArray.size x + ByteArray.size y) 9223372036854775807) (K (.v .str (ByteArray.append x y)))
        | _ => none)
  | .v .bool x, .v .bool y => (match T.ty xt, o with
      | some .bool, .eql => K (.v .bool (x == y))
      | some .bool, .neq => K (.v .bool (!(x == y)))
      | _, _ => none)
  | .v .flt x, .v .flt y => (match cmpFl T o x y with
      | some c => K (.v .bool c)
      | none => chk (T.faOk o x y) (K (.v .flt (T.fa o x y))))
  | .v .nils _, .v .nils _ => (match T.ty xt, o with
      | some .nils, .eql => K (.v .bool true)
      | some .nils, .neq => K (.v .bool false)
      | _, _ => none)
  | .v .nile _, .v .nile _ => (match T.ty xt, nc, o with
      | some .nile, true, .eql => K (.v .bool true)
      | some .nile, true, .neq => K (.v .bool false)
      | _, _, _ => none)
  | .v t x, .v s y => (match T.ty xt, cast? (F := Ty.den) s t y with
    | some u, some z => bif T.eq xt && Ty.beq u t then (match eqF T t x z with
      | some c => (match o with
        | .eql => K (.v .bool c)
        | .neq => K (.v .bool (!c))
        | _ => none)
      | none => none) else none
    | _, _ => none)
  | _, _ => none
variable (g : Nat → Option AV) (rw : RW)
def lenOf : AV → Option Int
  | .sl r => (match row rw r with
    | some w => some (w.xs.length : Int)
    | none => none)
  | .cut _ _ lo hi => some (hi - lo)
  | .nilS _ _ => some 0
  | _ => none
/-- The list that a slice tells. -/
def listOf : AV → Option Row
  | .sl r => row rw r
  | .cut r _ lo hi => (match row rw r with
    | some w => some ⟨w.t, w.e, false, (w.xs.drop lo.toNat).take (hi.toNat - lo.toNat)⟩
    | none => none)
  | .nilS t e => some ⟨t, e, false, []⟩
  | _ => none
/-- Two types whose slices may be appended to each other. -/
def appTy (t t' : TypeId) : Bool := Nat.beq t t' || (T.sl t').isSome || (T.hsl t').isSome
/-- What is appended: a list, or the bytes of a text. -/
def appOf (t t' e : TypeId) : AV → Option Row
  | .v .str s => (match T.ty t' with
    | some .str => some ⟨.int .u8, e, false, bytesI s⟩
    | _ => none)
  | b => bif appTy T t t' then listOf rw b else none
def toDen (t : Ty) : AV → Option t.den
  | .v s x => cast? (F := Ty.den) s t x
  | _ => none
def opdDen (t : Ty) (x : Operand) : Option t.den := match opd T g 0 x with
  | some v => toDen t v
  | none => none
/-- A struct of its parts; what is not named is zero. -/
def buildT (t : Ty) : List (Nat × Operand) → t.den → Option t.den
  | [], x => some x
  | (j, o) :: ps, x => (match opd T g 0 o with
    | some (.v s y) => (match t.put j x s y with
      | some z => buildT t ps z
      | none => none)
    | _ => none)
def elems (t : Ty) : Nat → List (Nat × Operand) → Option (List t.den)
  | _, [] => some []
  | n, (m, x) :: l => bif Nat.beq m n then (match opdDen T g t x, elems t (n + 1) l with
      | some y, some ys => some (y :: ys)
      | _, _ => none) else none
/-- An argument and the row that is given away. -/
def toArg (p : Par) (x : Operand) : Option (p.den × Upd) := match p with
  | .v t => (match opdDen T g t x with
    | some y => some (y, [])
    | none => none)
  | .op => some ((), [])
  | .hp => none
  | .h _ => none
  | .fn => none
  | .pt t e => (match opd T g 0 x with
    | some (.ptr r i) => (match row rw r with
      | some w => bif Nat.beq w.e e then (match cast? (F := fun t => List t.den) w.t t w.xs with
        | some xs => some (nth t xs i, [])
        | none => none) else none
      | none => none)
    | _ => none)
  | .read t e => (match x with
    | .const (.slice none 0 0) => some ([], [])
    | x => match opd T g 0 x with
      | some a => (match listOf rw a with
        | some w => bif Nat.beq w.e e then (match cast? (F := fun t => List t.den) w.t t w.xs with
          | some xs => some (xs, [])
          | none => none) else none
        | none => none)
      | none => none)
  | .own t e => (match x with
    | .const (.slice none 0 0) => some ([], [])
    | x => match opd T g 0 x with
      | some (.sl r) => (match row rw r with
        | some w => bif w.own then bif Nat.beq w.e e then (match cast? (F := fun t => List t.den) w.t t w.xs with
          | some xs => some (xs, [(r, none)])
          | none => none) else none else none
        | none => none)
      | some (.nilS _ _) => some ([], [])
      | _ => none)
def mem (n : Nat) : List Nat → Bool
  | [] => false
  | m :: l => bif Nat.beq m n then true else mem n l
def given : Upd → List Nat
  | [] => []
  | (n, _) :: l => n :: given l
/-- The row that an argument tells of, if one. -/
def argRow (x : Operand) : List Nat := match x with
  | .tmp t => (match g t with
    | some (.sl r) => [r]
    | some (.cut r _ _ _) => [r]
    | some (.ptr r _) => [r]
    | _ => [])
  | _ => []
def disj : List Nat → List Nat → Bool
  | [], _ => true
  | n :: l, m => bif mem n m then false else disj l m
/-- The arguments, and the rows that are given away; no row that is given away is told of twice. -/
def toArgs : (ps : List Par) → List Operand → Option (argL ps × Upd × List Nat)
  | [], [] => some ((), [], [])
  | p :: ps, x :: l => (match toArg T g rw p x, toArgs ps l with
    | some (y, us), some (ys, vs, rs) => bif disj (given us) rs && disj (argRow g x) (given vs) then some ((y, ys), us ++ vs, argRow g x ++ rs) else none
    | _, _ => none)
  | _, _ => none
/-- A row that is new gets a name that was never used. -/
def isNew (d : Nat) : Bool := match rw d with
  | none => true
  | some _ => false
/-- The results of a call: parts; the rows are named from n on. -/
def parts (n : Nat) : (l : List RTy) → retL l → List AC × Upd
  | [], _ => ([], [])
  | [.v t], x => ([.v t x], [])
  | [.sl t e], x => ([.sl n], [(n, some ⟨t, e, true, x⟩)])
  | [.pt t e], x => ([.pt n], [(n, some ⟨t, e, true, [x]⟩)])
  | [.hp], _ => ([], [])
  | [.h t], x => ([.h t x], [])
  | .hp :: r :: l, x => parts n (r :: l) x.2
  | .h t :: r :: l, x => (match parts n (r :: l) x.2 with
    | (cs, us) => (.h t x.1 :: cs, us))
  | .v t :: r :: l, x => (match parts n (r :: l) x.2 with
    | (cs, us) => (.v t x.1 :: cs, us))
  | .sl t e :: r :: l, x => (match parts (n + 100000) (r :: l) x.2 with
    | (cs, us) => (.sl n :: cs, (n, some ⟨t, e, true, x.1⟩) :: us))
  | .pt t e :: r :: l, x => (match parts (n + 100000) (r :: l) x.2 with
    | (cs, us) => (.pt n :: cs, (n, some ⟨t, e, true, [x.1]⟩) :: us))
def allNew (rw : RW) : Upd → Bool
  | [] => true
  | (n, _) :: l => isNew rw n && allNew rw l
def resOf (l : List AC) : AV := match l with
  | [.v t x] => .v t x
  | [.sl r] => .sl r
  | [.pt r] => .ptr r 0
  | l => .tup l
def intOf : AV → Option Int
  | .v (.int _) n => some n
  | _ => none
def opdInt (x : Operand) : Option Int := match opd T g 0 x with
  | some v => intOf v
  | none => none
def loOf (x : Option Operand) : Option Int := match x with
  | some l => opdInt T g l
  | none => some 0
def zeroLo (x : Option Operand) : Bool := match x with
  | none => true
  | some (.const (.int _ 0)) => true
  | _ => false
def hiOf (x : Option Operand) (n : Int) : Option Int := match x with
  | some l => opdInt T g l
  | none => some n
def maxI (k : IntKind) (x : Int) : List Operand → Option Int
  | [] => some x
  | o :: l => (match opd T g 0 o with
    | some (.v (.int j) y) => bif kbeq k j then maxI k (bif T.lt x y then y else x) l else none
    | _ => none)
def minI (k : IntKind) (x : Int) : List Operand → Option Int
  | [] => some x
  | o :: l => (match opd T g 0 o with
    | some (.v (.int j) y) => bif kbeq k j then minI k (bif T.lt y x then y else x) l else none
    | _ => none)
/-- One operation, its place named d: its value and what becomes of the rows, handed on. -/
def oper (d : Nat) (o : Oper) (K : AV → Upd → Option R) : Option R :=
  match o.op with
  | .move x | .assign x => (match opd T g o.type x with
    | some a => K a []
    | none => none)
  | .pick c a b => (match opd T g 0 c, opd T g o.type a, opd T g o.type b with
    | some (.v .bool c), some a, some b => br c (K a []) (K b [])
    | _, _, _ => none)
  | .binOp op xt x y _ => (match opd T g xt x, opd T g xt y with
    | some a, some b => binV T (isC x || isC y) xt op a b (fun v => K v [])
    | _, _ => none)
  | .unOp op _ x => (match op, opd T g 0 x with
    | .not, some (.v .bool b) => K (.v .bool (!b)) []
    | .neg, some (.v (.int k) n) => K (.v (.int k) (k.wrap (0 - n))) []
    | _, _ => none)
  | .build t ps => (match T.ty t with
    | some ty => (match (bif ty.isStruct then buildT T g ty ps.toList ty.zero else none) with
      | some x => K (.v ty x) []
      | none => none)
    | none => none)
  | .buildSlice t n ps => (match T.sl t with
    | some (ty, e) => (match elems T g ty 0 ps.toList with
      | some xs => bif Nat.beq xs.length n && isNew rw d && Nat.ble (n * ty.sz) 100000 then K (.sl d) [(d, some ⟨ty, e, true, xs⟩)] else none
      | none => none)
    | none => none)
  | .box e x => (match T.ty e, opd T g 0 x with
    | some ty, some (.v t y) => bif Ty.beq ty t && isNew rw d then K (.ptr d 0) [(d, some ⟨t, e, true, [y]⟩)] else none
    | _, _ => none)
  | .alloc e => (match T.ty e with
    | some ty => bif isNew rw d then K (.ptr d 0) [(d, some ⟨ty, e, true, [ty.zero]⟩)] else none
    | none => none)
  | .nilCheck x => (match opd T g 0 x with
    | some (.ptr r i) => K (.ptr r i) []
    | some (.fptr r i j) => K (.fptr r i j) []
    | _ => none)
  | .indexAddr t x i => (match T.sl t, opd T g 0 x, opdInt T g i with
    | some (ty, e), some a, some i => (match a with
      | .sl r => (match row rw r with
        | some w => bif Ty.beq ty w.t then chk (T.le 0 i) (chk (T.lt i (w.xs.length : Int)) (K (.ptr r i) [])) else none
        | none => none)
      | .cut r _ lo hi => (match row rw r with
        | some w => bif Ty.beq ty w.t then chk (T.le 0 i) (chk (T.lt i (hi - lo)) (K (.ptr r (lo + i)) [])) else none
        | none => none)
      | _ => none)
    | _, _, _ => none)
  | .index t x i => (match T.ty t, opd T g 0 x, opdInt T g i with
    | some .str, some (.v .str s), some i => chk (T.le 0 i) (chk (T.lt i (ByteArray.size s : Int)) (K (.v (.int .u8) (bt s i)) []))
    | _, _, _ => none)
  | .fieldAddr s x j => (match T.ty s, opd T g 0 x with
    | some ty, some (.ptr r i) => (match row rw r with
      | some w => bif Ty.beq ty w.t then (match ty.fld j with
        | some _ => K (.fptr r i j) []
        | none => none) else none
      | none => none)
    | _, _ => none)
  | .field s x j => (match T.ty s, opd T g 0 x with
    | some ty, some (.v t x) => bif Ty.beq ty t then (match t.fld j with
      | some _ => K (.v (t.get j x).1 (t.get j x).2) []
      | none => none) else none
    | _, _ => none)
  | .load s x => (match T.ty s, opd T g 0 x with
    | some ty, some (.ptr r i) => (match row rw r with
      | some w => bif Ty.beq ty w.t then K (.v w.t (nth w.t w.xs i)) [] else none
      | none => none)
    | some ty, some (.fptr r i j) => (match row rw r with
      | some w => bif Ty.beq ty (w.t.get j (nth w.t w.xs i)).1 then K (.v (w.t.get j (nth w.t w.xs i)).1 (w.t.get j (nth w.t w.xs i)).2) [] else none
      | none => none)
    | _, _ => none)
  | .store s x y => (match T.ty s, opd T g 0 x, opd T g 0 y with
    | some ty, some (.ptr r i), some (.v s v) => (match row rw r with
      | some w => bif w.own && Ty.beq ty w.t then (match cast? (F := Ty.den) s w.t v with
        | some y => K .u [(r, some ⟨w.t, w.e, true, w.xs.set i.toNat y⟩)]
        | none => none) else none
      | none => none)
    | some ty, some (.fptr r i j), some (.v s v) => (match row rw r with
      | some w => bif w.own && Ty.beq ty s then (match w.t.put j (nth w.t w.xs i) s v with
        | some y => K .u [(r, some ⟨w.t, w.e, true, w.xs.set i.toNat y⟩)]
        | none => none) else none
      | none => none)
    | _, _, _ => none)
  | .slice t x xlo hi none => (match opd T g 0 x, loOf T g xlo with
    | some (.v .str s), some lo => (match T.ty t, hiOf T g hi (ByteArray.size s : Int) with
      | some .str, some hi => chk (T.le 0 lo) (chk (T.le lo hi) (chk (T.le hi (ByteArray.size s : Int)) (K (.v .str (ByteArray.extract s (Int.toNat lo) (Int.toNat hi))) [])))
      | _, _ => none)
    | some (.sl r), some lo => (match T.sl t, row rw r with
      | some (ty, _), some w => (match hiOf T g hi (w.xs.length : Int) with
        | some hi => bif Ty.beq ty w.t then chk (T.le 0 lo) (chk (T.le lo hi) (chk (T.le hi (w.xs.length : Int)) (K (.cut r (zeroLo xlo) lo hi) []))) else none
        | none => none)
      | _, _ => none)
    | some (.cut r p l0 h0), some lo => (match T.sl t, row rw r with
      | some (ty, _), some w => (match hiOf T g hi (h0 - l0) with
        | some hi => bif Ty.beq ty w.t then chk (T.le 0 lo) (chk (T.le lo hi) (chk (T.le hi (h0 - l0)) (K (.cut r (p && zeroLo xlo) (l0 + lo) (l0 + hi)) []))) else none
        | none => none)
      | _, _ => none)
    | _, _ => none)
  | .convert src dst x => (match opd T g 0 x with
    | some (.v .str x) => (match T.ty src, T.sl dst with
      | some .str, some (.int .i32, e) => bif isNew rw d then chk (T.nle (runesI x).length 70368744177664) (K (.sl d) [(d, some ⟨.int .i32, e, true, runesI x⟩)]) else none
      | some .str, some (.int .u8, e) => bif isNew rw d then K (.sl d) [(d, some ⟨.int .u8, e, false, bytesI x⟩)] else none
      | _, _ => none)
    | some (.v (.int _) x) => (match T.ty src, T.ty dst with
      | some (.int _), some (.int k) => K (.v (.int k) (k.wrap x)) []
      | some (.int _), some .flt => K (.v .flt (T.i2f x)) []
      | some (.int _), some .str => K (.v .str (strOfRunes [x])) []
      | _, _ => none)
    | some (.v .flt x) => (match T.ty src, T.ty dst with
      | some .flt, some (.int k) => chk (T.f2iOk k x) (K (.v (.int k) (T.f2i k x)) [])
      | _, _ => none)
    | some a => (match T.ty src, T.sl src, T.ty dst, listOf rw a with
      | none, some (.int .i32, _), some .str, some ⟨.int .i32, _, _, xs⟩ => K (.v .str (strOfRunes xs)) []
      | none, some (.int .u8, _), some .str, some ⟨.int .u8, _, _, xs⟩ => K (.v .str (strOfBytes xs)) []
      | none, some (.int .u8, _), none, some ⟨.int .u8, e', true, y :: xs⟩ => (match a with
        | .sl r => bif Nat.beq src dst then K (.sl r) [(r, some ⟨.int .u8, e', false, y :: xs⟩)] else none
        | _ => none)
      | _, _, _, _ => none)
    | none => none)
  | .extract x j => (match opd T g 0 x with
    | some (.tup l) => (match l[j]? with
      | some (.v t x) => K (.v t x) []
      | some (.sl r) => K (.sl r) []
      | some (.pt r) => K (.ptr r 0) []
      | _ => none)
    | _ => none)
  | .call { callee := .builtin .len, args, argTypes } => (match args.toList, argTypes.toList with
    | [x], [t] => (match opd T g 0 x with
      | some (.v .str s) => (match T.ty t with
        | some .str => K (.v (.int .i64) (ByteArray.size s : Int)) []
        | _ => none)
      | some a => (match T.sl t, lenOf rw a with
        | some _, some n => K (.v (.int .i64) n) []
        | _, _ => none)
      | none => none)
    | _, _ => none)
  | .call { callee := .builtin .append, args, argTypes } => (match args.toList, argTypes.toList with
    | [x, y], [t, t'] => (match opd T g t x, opd T g t y, T.sl t with
      | some a, some b, some (ty, e) => bif isNew rw d then (match appOf T rw t t' e b with
        | some w => (match cast? (F := fun t => List t.den) w.t ty w.xs with
          | some ys => (match a with
            | .sl r => (match row rw r with
              | some u => bif u.own && Nat.beq u.e e then (match cast? (F := fun t => List t.den) u.t ty u.xs with
                | some xs => chk (T.lt ((xs.length : Int) + (ys.length : Int)) 1000000000000) (K (.sl d) [(r, none), (d, some ⟨ty, e, true, xs ++ ys⟩)])
                | none => none) else none
              | none => none)
            | .cut r _ lo hi => (match row rw r with
              | some u => bif u.own && Nat.beq u.e e then chk (T.eqI lo 0) (match cast? (F := fun t => List t.den) u.t ty u.xs with
                | some xs => chk (T.lt ((hi : Int) + (ys.length : Int)) 1000000000000) (K (.sl d) [(r, none), (d, some ⟨ty, e, true, xs.take hi.toNat ++ ys⟩)])
                | none => none) else none
              | none => none)
            | .nilS _ _ => chk (T.lt (ys.length : Int) 1000000000000) (K (.sl d) [(d, some ⟨ty, e, true, ys⟩)])
            | _ => none)
          | none => none)
        | none => none) else none
      | _, _, _ => none)
    | _, _ => none)
  | .call { callee := .builtin .copy, args, argTypes } => (match args.toList, argTypes.toList with
    | [x, y], [t, _] => (match opd T g t x, opd T g t y, T.sl t with
      | some a, some b, some (ty, e) => (match listOf rw b with
        | some w => (match cast? (F := fun t => List t.den) w.t ty w.xs with
          | some ys => (match a with
            | .sl r => (match row rw r with
              | some u => bif u.own && Nat.beq u.e e then (match cast? (F := fun t => List t.den) u.t ty u.xs with
                | some xs => K (.v (.int .i64) (Nat.min ys.length xs.length : Int)) [(r, some ⟨ty, e, true, cpL xs ys 0 xs.length⟩)]
                | none => none) else none
              | none => none)
            | .cut r _ lo hi => (match row rw r with
              | some u => bif u.own && Nat.beq u.e e then (match cast? (F := fun t => List t.den) u.t ty u.xs with
                | some xs => K (.v (.int .i64) (Nat.min ys.length (Int.toNat (hi - lo)) : Int)) [(r, some ⟨ty, e, true, cpL xs ys lo.toNat (Int.toNat (hi - lo))⟩)]
                | none => none) else none
              | none => none)
            | _ => none)
          | none => none)
        | none => none)
      | _, _, _ => none)
    | _, _ => none)
  | .call { callee := .value (.func f), args, argTypes := _ } => bif (!T.rd f || rdSig (sg f)) && pureR (sg f).rs then (match toArgs T g rw (sg f).ps args.toList with
    | some (ds, us, _) => (callF f ds).bind fun r => (match parts d (sg f).rs r with
      | (cs, vs) => bif allNew rw vs then K (resOf cs) (us ++ vs) else none)
    | none => none) else none
  | .makeSlice t l c => (match T.sl t, opdInt T g l, opdInt T g c with
    | some (ty, e), some l, some c => bif isNew rw d then chk (T.le 0 l) (chk (T.le l c) (chk (T.lt c 1000000000000) (K (.sl d) [(d, some ⟨ty, e, true, List.replicate l.toNat ty.zero⟩)]))) else none
    | _, _, _ => none)
  | .call { callee := .builtin .max, args, argTypes := _ } => (match args.toList with
    | x :: l => (match opd T g 0 x with
      | some (.v (.int k) x) => (match maxI T g k x l with
        | some n => K (.v (.int k) n) []
        | none => none)
      | _ => none)
    | _ => none)
  | .call { callee := .builtin .min, args, argTypes := _ } => (match args.toList with
    | x :: l => (match opd T g 0 x with
      | some (.v (.int k) x) => (match minI T g k x l with
        | some n => K (.v (.int k) n) []
        | none => none)
      | _ => none)
    | _ => none)
  | _ => none
/-! ### operations that know the heap -/
def avOf (t : HTy) : t.den → AV := match t with
  | .p t => fun x => .v t x
  | .sr => fun x => .h .sr x
  | .pr => fun x => .h .pr x
  | .ir => fun x => .h .ir x
  | .one a => fun x => .h (.one a) x
  | .pair a b => fun x => .h (.pair a b) x
def toH (t : HTy) : AV → Option t.den
  | .v s y => (match t with
    | .p u => cast? (F := Ty.den) s u y
    | _ => none)
  | .h s y => castH (F := HTy.den) s t y
  | .nilS _ _ => (match t with
    | .sr => some Rf.nil
    | _ => none)
  | .nilP => (match t with
    | .pr => some Pf.nil
    | _ => none)
  | _ => none
def opdH (t : HTy) (x : Operand) : Option t.den := match x with
  | .const (.slice none 0 0) => (match t with
    | .sr => some Rf.nil
    | _ => none)
  | .const (.pointer none) => (match t with
    | .pr => some Pf.nil
    | _ => none)
  | .const .nilIface => (match t with
    | .ir => some If.nil
    | _ => none)
  | x => (match opd T g 0 x with
    | some a => toH t a
    | none => none)
def buildH (t : HTy) : List (Nat × Operand) → t.den → Option t.den
  | [], x => some x
  | (j, o) :: ps, x => (match t.fld j with
    | some s => (match opdH T g s o with
      | some y => (match t.put j x s y with
        | some z => buildH t ps z
        | none => none)
      | none => none)
    | none => none)
def elemsH (t : HTy) : Nat → List (Nat × Operand) → Option (List t.den)
  | _, [] => some []
  | n, (m, x) :: l => bif Nat.beq m n then (match opdH T g t x, elemsH t (n + 1) l with
    | some y, some ys => some (y :: ys)
    | _, _ => none) else none
def capsH : List Operand → Option (List Pf)
  | [] => some []
  | x :: l => (match opdH T g .pr x, capsH l with
    | some p, some ps => some (p :: ps)
    | _, _ => none)
/-- A new row goes to the heap. -/
def lastRow (r : Nat) : Upd → Option (Upd × Row)
  | [] => none
  | [(q, some w)] => bif Nat.beq q r then some ([(q, none)], w) else none
  | p :: l => (match lastRow r l with
    | some (us, w) => some (p :: us, w)
    | none => none)
def heapify (h : Hp) (v : AV) (us : Upd) (K : AV → Upd → Hp → Option R) : Option R := match v with
  | .sl r => (match lastRow r us with
    | some (us', w) => bif w.own then K (.h .sr (.at h.nx 0 w.xs.length)) us' (h.new w.e (.p w.t) w.xs) else none
    | none => none)
  | _ => none
def setG (g : Nat → Option AV) (n : Nat) (v : AV) : Nat → Option AV := fun m => bif Nat.beq m n then some v else g m
def setW (rw : RW) (n : Nat) (x : Row) : RW := fun m => bif Nat.beq m n then some (some x) else rw m
/-- Slices of the heap are looked at as rows that are read, named from q on. -/
def views (h : Hp) : Nat → List (Operand × Ty × TypeId) → (Nat → Option AV) → RW → ((Nat → Option AV) → RW → Option R) → Option R
  | _, [], g, rw, K => K g rw
  | q, (x, t, e) :: l, g, rw, K => (match x with
    | .tmp n => (match g n with
      | some (.h .sr r) => (h.rd t r).bind fun xs => bif isNew rw q then views h (q + 1) l (setG g n (.sl q)) (setW rw q ⟨t, e, false, xs⟩) K else none
      | some (.hc r _) => (h.rd t r).bind fun xs => bif isNew rw q then views h (q + 1) l (setG g n (.sl q)) (setW rw q ⟨t, e, false, xs⟩) K else none
      | _ => views h q l g rw K)
    | _ => views h q l g rw K)
def readPs : List Par → List Operand → List (Operand × Ty × TypeId)
  | .read t e :: ps, x :: l => (x, t, e) :: readPs ps l
  | _ :: ps, _ :: l => readPs ps l
  | _, _ => []
def viewsOf (o : Oper) : List (Operand × Ty × TypeId) := match o.op with
  | .call { callee := .builtin .append, args, argTypes } => (match args.toList, argTypes.toList with
    | [_, y], [t, _] => (match T.sl t with
      | some (t, e) => [(y, t, e)]
      | none => [])
    | _, _ => [])
  | .call { callee := .builtin .copy, args, argTypes } => (match args.toList, argTypes.toList with
    | [_, y], [t, _] => (match T.sl t with
      | some (t, e) => [(y, t, e)]
      | none => [])
    | _, _ => [])
  | .call { callee := .value (.func f), args, argTypes := _ } => readPs (sg f).ps args.toList
  | _ => []
/-- No name from q to q + n. -/
def noName (q n : Nat) : AV → Bool
  | .sl r => Nat.blt r q || Nat.ble (q + n) r
  | .cut r _ _ _ => Nat.blt r q || Nat.ble (q + n) r
  | .ptr r _ => Nat.blt r q || Nat.ble (q + n) r
  | .fptr r _ _ => Nat.blt r q || Nat.ble (q + n) r
  | .v _ _ => true
  | .u => true
  | .op => true
  | .nilS _ _ => true
  | .nilP => true
  | .h _ _ => true
  | .hc _ _ => true
  | .fn _ _ => true
  | _ => false
def noView (q n : Nat) : AV → Bool
  | .tup l => l.all fun c => match c with
    | .v _ _ => true
    | .sl r => Nat.blt r q || Nat.ble (q + n) r
    | .pt r => Nat.blt r q || Nat.ble (q + n) r
    | .h _ _ => true
  | v => noName q n v
def viewQ : Nat := 70000
/-- No name from q to q + n. -/
def noUs (q n : Nat) : Upd → Bool
  | [] => true
  | (r, _) :: us => (Nat.blt r q || Nat.ble (q + n) r) && noUs q n us
def freshV (rw : RW) (q : Nat) : Nat → Bool
  | 0 => true
  | n + 1 => isNew rw (q + n) && freshV rw q n
/-- An operation that does not know the heap. -/
def oldK (d : Nat) (o : Oper) (h : Hp) (K : AV → Upd → Hp → Option R) : Option R :=
  match viewsOf T sg o with
  | [] => oper T sg callF g rw d o fun v us => bif T.hs d then heapify h v us K else K v us h
  | l => bif freshV rw (viewQ + d) l.length then views h (viewQ + d) l g rw fun g' rw' => oper T sg callF g' rw' d o fun v us => bif noView (viewQ + d) l.length v && noUs (viewQ + d) l.length us then (bif T.hs d then heapify h v us K else K v us h) else none else none
def toArgs2 : (ps : List Par) → List Operand → Option (argL ps × Upd × List Nat)
  | [], [] => some ((), [], [])
  | [], _ :: _ => none
  | .h t :: ps, x :: l => (match opdH T g t x, toArgs2 ps l with
    | some y, some (ys, vs, rs) => some ((y, ys), vs, rs)
    | _, _ => none)
  | .fn :: ps, x :: l => (match opd T g 0 x, toArgs2 ps l with
    | some (.fn f caps), some (ys, vs, rs) => some (((f, caps), ys), vs, rs)
    | _, _ => none)
  | p :: ps, x :: l => (match toArg T g rw p x, toArgs2 ps l with
    | some (y, us), some (ys, vs, rs) => bif disj (given us) rs && disj (argRow g x) (given vs) then some ((y, ys), us ++ vs, argRow g x ++ rs) else none
    | _, _ => none)
  | _ :: _, [] => none
def resOf2 (l : List AC) : AV := match l with
  | [.v t x] => .v t x
  | [.sl r] => .sl r
  | [.pt r] => .ptr r 0
  | [.h t x] => .h t x
  | l => .ht l
/-- A call of a function that takes the heap. -/
def hcall (d : Nat) (f : FuncId) (h : Hp) (K : AV → Upd → Hp → Option R) (a : Option (argL (strip (sg f).ps) × Upd × List Nat)) : Option R := match a with
  | some (ds, us, _) => (callF f (addH (sg f).ps h ds)).bind fun r => (match parts d (stripT (sg f).rs) (stripR (sg f).rs r) with
    | (cs, vs) => bif allNew rw vs then K (resOf2 cs) (us ++ vs) (hpR (sg f).rs r) else none)
  | none => none
/-- Captured variables follow the arguments. -/
def capArgs : (ps : List Par) → List Pf → Option (argL ps)
  | [], [] => some ()
  | .h .pr :: ps, p :: l => (match capArgs ps l with
    | some ys => some (p, ys)
    | none => none)
  | _, _ => none
/-- Arguments, and captured variables behind them. -/
def toArgs3 (caps : List Pf) : (ps : List Par) → List Operand → Option (argL ps × Upd × List Nat)
  | .v t :: ps, x :: l => (match toArg T g rw (.v t) x, toArgs3 caps ps l with
    | some (y, _), some (ys, vs, rs) => some ((y, ys), vs, rs)
    | _, _ => none)
  | .h t :: ps, x :: l => (match opdH T g t x, toArgs3 caps ps l with
    | some y, some (ys, vs, rs) => some ((y, ys), vs, rs)
    | _, _ => none)
  | ps, [] => (match capArgs ps caps with
    | some ys => some (ys, [], [])
    | none => none)
  | _, _ => none
def itag (t : TypeId) : If → Bool
  | .nil => false
  | .sl s _ => Nat.beq s t
  | .pt s _ => Nat.beq s t
  | .two s _ _ => Nat.beq s t
def recvOf (t : TypeId) (i : If) : (p : Par) → Option p.den
  | .h .sr => ifs t i
  | .h .pr => ifp t i
  | .h (.pair .sr (.one .sr)) => if2 t i
  | _ => none
def invArgs (t : TypeId) (i : If) : (ps : List Par) → List Operand → Option (argL ps × Upd × List Nat)
  | p :: ps, l => (match recvOf t i p, toArgs2 T g rw ps l with
    | some y, some (ys, vs, rs) => some ((y, ys), vs, rs)
    | _, _ => none)
  | _, _ => none
def headD : List Par → Type
  | [] => Unit
  | p :: _ => p.den
def recvS (t : TypeId) (i : If) : (ps : List Par) → Option (headD ps)
  | [] => none
  | p :: _ => recvOf t i p
def invY : (ps : List Par) → headD ps → List Operand → Option (argL ps × Upd × List Nat)
  | _ :: ps, y, l => (match toArgs2 T g rw ps l with
    | some (ys, vs, rs) => some ((y, ys), vs, rs)
    | none => none)
  | _, _, _ => none
def dispI (d : Nat) (i : If) (args : List Operand) (h : Hp) (K : AV → Upd → Hp → Option R) : List (TypeId × FuncId) → Option R
  | [] => none
  | (t, f) :: l => br (itag t i) (bif hasHp (sg f).ps then (recvS t i (strip (sg f).ps)).bind fun y => hcall sg callF rw d f h K (invY T g rw (strip (sg f).ps) y args) else none) (dispI d i args h K l)
/-- A call of a function that does not take the heap, through a value. -/
def pcall (d : Nat) (f : FuncId) (h : Hp) (K : AV → Upd → Hp → Option R) (a : Option (argL (sg f).ps × Upd × List Nat)) : Option R := match a with
  | some (ds, us, _) => bif pureR (sg f).rs then (callF f ds).bind fun r => (match parts d (sg f).rs r with
    | (cs, vs) => bif allNew rw vs then K (resOf cs) (us ++ vs) h else none) else none
  | none => none
def nilC : List Pf → Bool
  | [] => true
  | _ => false
def dispF (d : Nat) (f : Nat) (caps : List Pf) (args : List Operand) (h : Hp) (K : AV → Upd → Hp → Option R) : List FuncId → Option R
  | [] => none
  | q :: l => br (Nat.beq f q) (bif hasHp (sg q).ps then (bif Nat.beq (strip (sg q).ps).length args.length then chk (nilC caps) (hcall sg callF rw d q h K (toArgs3 T g rw [] (strip (sg q).ps) args)) else hcall sg callF rw d q h K (toArgs3 T g rw caps (strip (sg q).ps) args)) else chk (nilC caps) (pcall sg callF rw d q h K (toArgs T g rw (sg q).ps args))) (dispF d f caps args h K l)
/-- What is appended to a slice of the heap: its cells. -/
def srcC (t t' : TypeId) (ty : HTy) (y : Operand) (h : Hp) (K : List Cell × Nat → Option R) : Option R := bif appTy T t t' then (match opd T g t y with
  | some (.h .sr r) => (h.cs ty.sz r).bind K
  | some b => (match listOf rw b with
    | some w => bif HTy.beq (.p w.t) ty then K ((cellsL w.t w.xs).map .v, w.xs.length) else none
    | none => none)
  | none => none) else none
def appDst (hs : Bool) : AV → Option Rf
  | .h .sr r => some r
  | .v .nils _ => some .nil
  | .nilS _ _ => bif hs then some .nil else none
  | _ => none
def acAV : AC → AV
  | .v t x => .v t x
  | .sl r => .sl r
  | .pt r => .ptr r 0
  | .h t x => .h t x
/-- The constant nil of a type. -/
def nilCof : HTy → Operand → Bool
  | .sr, .const (.slice none 0 0) => true
  | .pr, .const (.pointer none) => true
  | .ir, .const .nilIface => true
  | _, _ => false
def ifOf (xt : TypeId) (t : HTy) : t.den → Option If := match t with
  | .sr => fun r => some (.sl xt r)
  | .pr => fun p => some (.pt xt p)
  | .pair .sr (.one .sr) => fun x => some (.two xt x.1 x.2)
  | _ => fun _ => none
/-- nil held against a value that tells of the heap. -/
def nilEq (op : BinOp) (a : AV) (K : AV → Option R) : Option R := match op, a with
  | .eql, .h .sr r => chk (rsure r) (K (.v .bool (rnil r)))
  | .neq, .h .sr r => chk (rsure r) (K (.v .bool (!rnil r)))
  | .eql, .h .pr p => K (.v .bool (pnil p))
  | .neq, .h .pr p => K (.v .bool (!pnil p))
  | .eql, .h .ir i => K (.v .bool (inil i))
  | .neq, .h .ir i => K (.v .bool (!inil i))
  | _, _ => none
def isHv : AV → Bool
  | .h _ _ => true
  | _ => false
def oper2 (d : Nat) (o : Oper) (h : Hp) (K : AV → Upd → Hp → Option R) : Option R :=
  match o.op with
  | .load s x => (match opd T g 0 x with
    | some (.h .pr p) => (match T.hty s with
      | some t => (h.ld t p).bind fun y => K (avOf t y) [] h
      | none => none)
    | _ => oldK T sg callF g rw d o h K)
  | .store s x y => (match opd T g 0 x with
    | some (.h .pr p) => (match T.hty s with
      | some t => (match opdH T g t y with
        | some v => (h.st t p v).bind fun h2 => K .u [] h2
        | none => none)
      | none => none)
    | _ => oldK T sg callF g rw d o h K)
  | .nilCheck x => (match opd T g 0 x with
    | some (.h .pr p) => chk (!pnil p) (K (.h .pr p) [] h)
    | some (.h .ir i) => chk (!inil i) (K (.h .ir i) [] h)
    | _ => oldK T sg callF g rw d o h K)
  | .indexAddr t x i => (match opd T g 0 x with
    | some (.h .sr r) => (match T.hsl t, opdInt T g i with
      | some (ty, _), some i => chk (T.le 0 i) (chk (T.lt i (rlen r : Int)) (K (.h .pr (radr ty.sz i.toNat r)) [] h))
      | _, _ => none)
    | _ => oldK T sg callF g rw d o h K)
  | .fieldAddr s x j => (match opd T g 0 x with
    | some (.h .pr p) => (match T.hty s with
      | some t => (match t.fld j with
        | some _ => chk (!pnil p) (K (.h .pr (padd (t.off j) p)) [] h)
        | none => none)
      | none => none)
    | _ => oldK T sg callF g rw d o h K)
  | .field s x j => (match opd T g 0 x with
    | some (.h t x) => (match T.hty s with
      | some u => bif HTy.beq u t then (match t.fld j with
        | some _ => K (avOf (t.get j x).1 (t.get j x).2) [] h
        | none => none) else none
      | none => none)
    | _ => oldK T sg callF g rw d o h K)
  | .slice t x xlo hiO mx => (match opd T g 0 x with
    | some (.h .sr r) => (match T.hsl t, loOf T g xlo, hiOf T g hiO (rlen r : Int), mx with
      | some (ty, _), some lo, some hi, none => chk (T.le 0 lo) (chk (T.le lo hi) (chk (T.le hi (rlen r : Int)) (K (.h .sr (rcut ty.sz lo.toNat hi.toNat r)) [] h)))
      | some (ty, _), some lo, some hi, some m => (match hiO, opdInt T g m with
        | some _, some m => chk (T.le 0 lo) (chk (T.le lo hi) (chk (T.le hi m) (chk (T.le m (rlen r : Int)) (K (.hc (rcut ty.sz lo.toNat hi.toNat r) (m - lo).toNat) [] h))))
        | _, _ => none)
      | _, _, _, _ => none)
    | _ => oldK T sg callF g rw d o h K)
  | .build t ps => (match T.ty t, T.hty t with
    | none, some ty => (match (bif ty.isStruct then buildH T g ty ps.toList ty.zero else none) with
      | some x => K (.h ty x) [] h
      | none => none)
    | _, _ => oldK T sg callF g rw d o h K)
  | .box e x => (match T.ty e, T.hs d, T.hty e with
    | some _, false, _ => oldK T sg callF g rw d o h K
    | _, _, some t => (match opdH T g t x with
      | some v => K (.h .pr (.at h.nx 0)) [] (h.box e t v)
      | none => none)
    | _, _, _ => none)
  | .alloc e => (match T.ty e, T.hs d, T.hty e with
    | some _, false, _ => oldK T sg callF g rw d o h K
    | _, _, some t => K (.h .pr (.at h.nx 0)) [] (h.box e t t.zero)
    | _, _, _ => none)
  | .makeSlice t l c => (match T.sl t, T.hs d, T.hsl t with
    | some _, false, _ => oldK T sg callF g rw d o h K
    | _, _, some (ty, e) => (match opdInt T g l, opdInt T g c with
      | some l, some c => chk (T.le 0 l) (chk (T.le l c) (chk (T.lt c 1000000000000) (K (.h .sr (.at h.nx 0 l.toNat)) [] (h.new e ty (List.replicate l.toNat ty.zero)))))
      | _, _ => none)
    | _, _, _ => none)
  | .buildSlice t n ps => (match T.sl t, T.hs d, T.hsl t with
    | some _, false, _ => oldK T sg callF g rw d o h K
    | _, _, some (ty, e) => (match elemsH T g ty 0 ps.toList with
      | some xs => bif Nat.beq xs.length n && Nat.ble (n * ty.sz) 100000 then K (.h .sr (.at h.nx 0 n)) [] (h.new e ty xs) else none
      | none => none)
    | _, _, _ => none)
  | .binOp op xt x y _ => (match opd T g xt x, opd T g xt y with
    | some (.h t u), _ => (match T.hty xt with
      | some s => bif HTy.beq s t && nilCof s y then nilEq op (.h t u) (fun v => K v [] h) else none
      | none => none)
    | _, some (.h t u) => (match T.hty xt with
      | some s => bif HTy.beq s t && nilCof s x then nilEq op (.h t u) (fun v => K v [] h) else none
      | none => none)
    | _, _ => oldK T sg callF g rw d o h K)
  | .extract x j => (match opd T g 0 x with
    | some (.ht l) => (match l[j]? with
      | some c => K (acAV c) [] h
      | none => none)
    | _ => oldK T sg callF g rw d o h K)
  | .makeInterface xt x => (match T.hty xt with
    | some t => (match opdH T g t x with
      | some v => (match ifOf xt t v with
        | some i => K (.h .ir i) [] h
        | none => none)
      | none => none)
    | none => none)
  | .makeFunc (.func f) first captured => (match first.toList, capsH T g captured.toList with
    | [], some caps => K (.fn f caps) [] h
    | _, _ => none)
  | .range xt x => (match T.ty xt, opd T g 0 x with
    | some .str, some (.v .str s) => K (.h .pr (.at h.nx 0)) [] (h.push (.iter s 0))
    | _, _ => none)
  | .next it true => (match opd T g 0 it with
    | some (.h .pr p) => (h.more p).bind fun b => br b ((h.nxt p).bind fun q => K (.tup [.v .bool true, .v (.int .i64) q.1, .v (.int .i32) q.2.1]) [] q.2.2) (K (.tup [.v .bool false]) [] h)
    | _ => none)
  | .call { callee := .builtin .len, args, argTypes } => (match args.toList, argTypes.toList with
    | [x], [t] => (match opd T g 0 x with
      | some (.h .sr r) => (match T.hsl t with
        | some _ => K (.v (.int .i64) (rlen r : Int)) [] h
        | none => none)
      | some (.hc r _) => (match T.hsl t with
        | some _ => K (.v (.int .i64) (rlen r : Int)) [] h
        | none => none)
      | _ => oldK T sg callF g rw d o h K)
    | _, _ => none)
  | .call { callee := .builtin .append, args, argTypes } => (match args.toList, argTypes.toList with
    | [x, y], [t, t'] => (match opd T g t x with
      | some (.hc r c) => (match T.hsl t with
        | some (ty, e) => srcC T g rw t t' ty y h fun q => chk (T.lt ((rlen r : Int) + (q.2 : Int)) 1000000000000) ((h.apc e ty.sz q.1 q.2 r c).bind fun s => K (.h .sr s.1) [] s.2)
        | none => none)
      | some a => (match appDst (T.hs d) a with
        | some r => (match T.hsl t with
          | some (ty, e) => srcC T g rw t t' ty y h fun q => chk (T.lt ((rlen r : Int) + (q.2 : Int)) 1000000000000) ((h.app e ty.sz q.1 q.2 r).bind fun s => K (.h .sr s.1) [] s.2)
          | none => none)
        | none => oldK T sg callF g rw d o h K)
      | none => none)
    | _, _ => none)
  | .call { callee := .value (.func f), args, argTypes := _ } => bif hasHp (sg f).ps then (bif T.rd f then none else hcall sg callF rw d f h K (toArgs2 T g rw (strip (sg f).ps) args.toList)) else oldK T sg callF g rw d o h K
  | .call { callee := .value (.tmp n), args, argTypes := _ } => (match g n with
    | some (.fn f caps) => dispF T sg callF g rw d f caps args.toList h K (T.cand n)
    | _ => none)
  | .call { callee := .invoke x name, args, argTypes := _ } => (match opd T g 0 x with
    | some (.h .ir i) => dispI T sg callF g rw d i args.toList h K (T.meth name)
    | _ => none)
  | .convert src dst x => (match opd T g 0 x with
    | some (.h .sr r) => (match T.sl src, T.ty dst with
      | some (.int .i32, _), some .str => (h.rd (.int .i32) r).bind fun xs => K (.v .str (strOfRunes xs)) [] h
      | some (.int .u8, _), some .str => (h.rd (.int .u8) r).bind fun xs => K (.v .str (strOfBytes xs)) [] h
      | _, _ => none)
    | some (.v .str s) => (match T.hs d, T.ty src, T.sl dst with
      | true, some .str, some (.int .u8, _) => K (.h .sr (.at h.nx 0 s.size)) [] (h.push (.ro (roBytes s)))
      | _, _, _ => oldK T sg callF g rw d o h K)
    | _ => oldK T sg callF g rw d o h K)
  | _ => oldK T sg callF g rw d o h K
end
end Go.Ev

/- Cells of typed values. -/
namespace Go.Ev
theorem Ty.cells_length : ∀ (t : Ty) (x : t.den), (t.cells x).length = t.sz
  | .int _, _ => rfl
  | .bool, _ => rfl
  | .str, _ => rfl
  | .flt, _ => rfl
  | .nils, _ => rfl
  | .nile, _ => rfl
  | .one a, x => a.cells_length x
  | .pair a b, x => by
    show (a.cells x.1 ++ b.cells x.2).length = a.sz + b.sz
    rw [List.length_append, a.cells_length, b.cells_length]
theorem Ty.sz_pos : ∀ (t : Ty), 0 < t.sz
  | .int _ => Nat.one_pos
  | .bool => Nat.one_pos
  | .str => Nat.one_pos
  | .flt => Nat.one_pos
  | .nils => Nat.one_pos
  | .nile => Nat.one_pos
  | .one a => a.sz_pos
  | .pair a b => Nat.lt_of_lt_of_le a.sz_pos (Nat.le_add_right _ _)
theorem Ty.cells_one : ∀ (t : Ty) (x : t.den), ∀ u ∈ t.cells x, u.oneCell' = true
  | .int _, _, u, h => by rw [List.mem_singleton.1 h]; rfl
  | .bool, _, u, h => by rw [List.mem_singleton.1 h]; rfl
  | .str, _, u, h => by rw [List.mem_singleton.1 h]; rfl
  | .flt, _, u, h => by rw [List.mem_singleton.1 h]; rfl
  | .nils, _, u, h => by rw [List.mem_singleton.1 h]; rfl
  | .nile, _, u, h => by rw [List.mem_singleton.1 h]; rfl
  | .one a, x, u, h => a.cells_one x u h
  | .pair a b, x, u, h => by
    rcases List.mem_append.1 h with h | h
    · exact a.cells_one x.1 u h
    · exact b.cells_one x.2 u h
theorem Ty.val_cells : ∀ (t : Ty) (x : t.den), (t.val x).cells = (t.cells x).toArray
  | .int _, _ => rfl
  | .bool, _ => rfl
  | .str, _ => rfl
  | .flt, _ => rfl
  | .nils, _ => rfl
  | .nile, _ => rfl
  | .one _, _ => rfl
  | .pair _ _, _ => rfl
theorem Ty.val_struct : ∀ (t : Ty) (x : t.den), t.isStruct = true → t.val x = .agg (t.cells x).toArray
  | .int _, _, h => by cases h
  | .bool, _, h => by cases h
  | .str, _, h => by cases h
  | .flt, _, h => by cases h
  | .nils, _, h => by cases h
  | .nile, _, h => by cases h
  | .one _, _, _ => rfl
  | .pair _ _, _, _ => rfl
theorem Ty.cells_basic : ∀ (t : Ty) (x : t.den), t.isStruct = false → t.cells x = [t.val x]
  | .int _, _, _ => rfl
  | .bool, _, _ => rfl
  | .str, _, _ => rfl
  | .flt, _, _ => rfl
  | .nils, _, _ => rfl
  | .nile, _, _ => rfl
  | .one _, _, h => by cases h
  | .pair _ _, _, h => by cases h
theorem Ty.fld_get : ∀ (t : Ty) (j : Nat) (x : t.den) (s : Ty), t.fld j = some s → (t.get j x).1 = s
  | .int _, _, _, _, h => by cases h
  | .bool, _, _, _, h => by cases h
  | .str, _, _, _, h => by cases h
  | .flt, _, _, _, h => by cases h
  | .nils, _, _, _, h => by cases h
  | .nile, _, _, _, h => by cases h
  | .one a, 0, x, s, h => by cases h; rfl
  | .one a, j + 1, x, s, h => by cases h
  | .pair a b, 0, x, s, h => by cases h; rfl
  | .pair a b, j + 1, x, s, h => b.fld_get j x.2 s h
theorem Ty.off_sz : ∀ (t : Ty) (j : Nat) (s : Ty), t.fld j = some s → t.off j + s.sz ≤ t.sz
  | .int _, _, _, h => by cases h
  | .bool, _, _, h => by cases h
  | .str, _, _, h => by cases h
  | .flt, _, _, h => by cases h
  | .one a, 0, s, h => by cases h; show 0 + _ ≤ _; rw [Nat.zero_add]; exact Nat.le_refl _
  | .one a, j + 1, s, h => by cases h
  | .pair a b, 0, s, h => by cases h; show 0 + a.sz ≤ a.sz + b.sz; omega
  | .pair a b, j + 1, s, h => by
    have := b.off_sz j s h
    show a.sz + b.off j + s.sz ≤ a.sz + b.sz
    omega
theorem Ty.get_cells : ∀ (t : Ty) (j : Nat) (x : t.den) (s : Ty), t.fld j = some s → (t.get j x).1.cells (t.get j x).2 = ((t.cells x).drop (t.off j)).take s.sz
  | .int _, _, _, _, h => by cases h
  | .bool, _, _, _, h => by cases h
  | .str, _, _, _, h => by cases h
  | .flt, _, _, _, h => by cases h
  | .nils, _, _, _, h => by cases h
  | .nile, _, _, _, h => by cases h
  | .one a, 0, x, s, h => by
    cases h
    show a.cells x = ((a.cells x).drop 0).take a.sz
    rw [List.drop_zero, ← a.cells_length x, List.take_length]
  | .one a, j + 1, x, s, h => by cases h
  | .pair a b, 0, x, s, h => by
    cases h
    show a.cells x.1 = ((a.cells x.1 ++ b.cells x.2).drop 0).take a.sz
    rw [List.drop_zero, ← a.cells_length x.1, List.take_left']
    rfl
  | .pair a b, j + 1, x, s, h => by
    show (b.get j x.2).1.cells (b.get j x.2).2 = ((a.cells x.1 ++ b.cells x.2).drop (a.sz + b.off j)).take s.sz
    rw [b.get_cells j x.2 s h, ← a.cells_length x.1, ← List.drop_drop, List.drop_left']
    rfl
theorem Ty.put_fld : ∀ (t : Ty) (j : Nat) (x : t.den) (s : Ty) (y : s.den) (z : t.den), t.put j x s y = some z → t.fld j = some s
  | .int _, _, _, _, _, _, h => by cases h
  | .bool, _, _, _, _, _, h => by cases h
  | .str, _, _, _, _, _, h => by cases h
  | .flt, _, _, _, _, _, h => by cases h
  | .nils, _, _, _, _, _, h => by cases h
  | .nile, _, _, _, _, _, h => by cases h
  | .one a, 0, x, s, y, z, h => by
    simp only [Ty.put, cast?] at h
    split at h
    · rename_i hb; rw [Ty.beq_eq hb]; rfl
    · cases h
  | .one a, j + 1, x, s, y, z, h => by cases h
  | .pair a b, 0, x, s, y, z, h => by
    simp only [Ty.put, cast?] at h
    split at h
    · rename_i hb
      split at hb
      · rename_i hb'; rw [Ty.beq_eq hb']; rfl
      · cases hb
    · cases h
  | .pair a b, j + 1, x, s, y, z, h => by
    simp only [Ty.put] at h
    split at h
    · rename_i z' hz; exact b.put_fld j x.2 s y z' hz
    · cases h
theorem cast?_eq {F : Ty → Type} {s t : Ty} {x : F s} {y : F t} (h : cast? s t x = some y) : ∃ e : s = t, e ▸ x = y := by
  unfold cast? at h
  split at h
  · rename_i hb
    exact ⟨Ty.beq_eq hb, by injection h⟩
  · cases h
theorem Ty.put_cells : ∀ (t : Ty) (j : Nat) (x : t.den) (s : Ty) (y : s.den) (z : t.den), t.put j x s y = some z →
    t.cells z = (t.cells x).take (t.off j) ++ s.cells y ++ (t.cells x).drop (t.off j + s.sz)
  | .int _, _, _, _, _, _, h => by cases h
  | .bool, _, _, _, _, _, h => by cases h
  | .str, _, _, _, _, _, h => by cases h
  | .flt, _, _, _, _, _, h => by cases h
  | .nils, _, _, _, _, _, h => by cases h
  | .nile, _, _, _, _, _, h => by cases h
  | .one a, 0, x, s, y, z, h => by
    obtain ⟨e, hy⟩ := cast?_eq (F := Ty.den) (show cast? s a y = some z from h)
    subst e
    subst hy
    show s.cells y = (s.cells x).take 0 ++ s.cells y ++ (s.cells x).drop (0 + s.sz)
    rw [List.take_zero, List.nil_append, List.drop_eq_nil_of_le (by rw [s.cells_length]; omega), List.append_nil]
  | .one a, j + 1, x, s, y, z, h => by cases h
  | .pair a b, 0, x, s, y, z, h => by
    simp only [Ty.put] at h
    split at h
    · rename_i z' hb
      obtain ⟨e, hy⟩ := cast?_eq (F := Ty.den) hb
      subst e
      subst hy
      injection h with h
      subst h
      show s.cells y ++ b.cells x.2 = (s.cells x.1 ++ b.cells x.2).take 0 ++ s.cells y ++ (s.cells x.1 ++ b.cells x.2).drop (0 + s.sz)
      rw [List.take_zero, List.nil_append, Nat.zero_add, ← s.cells_length x.1, List.drop_left']
      rfl
    · cases h
  | .pair a b, j + 1, x, s, y, z, h => by
    simp only [Ty.put] at h
    split at h
    · rename_i z' hz
      injection h with h
      subst h
      have ih := b.put_cells j x.2 s y z' hz
      show a.cells x.1 ++ b.cells z' = (a.cells x.1 ++ b.cells x.2).take (a.sz + b.off j) ++ s.cells y ++ (a.cells x.1 ++ b.cells x.2).drop (a.sz + b.off j + s.sz)
      rw [ih, ← a.cells_length x.1, List.take_length_add_append, Nat.add_assoc, List.drop_length_add_append]
      simp [List.append_assoc]
    · cases h
/-! ### lists of elements -/
theorem cellsL_nil (t : Ty) : cellsL t [] = [] := rfl
theorem cellsL_cons (t : Ty) (x : t.den) (xs : List t.den) : cellsL t (x :: xs) = t.cells x ++ cellsL t xs := rfl
theorem cellsL_append (t : Ty) (xs ys : List t.den) : cellsL t (xs ++ ys) = cellsL t xs ++ cellsL t ys := by simp [cellsL]
theorem cellsL_length (t : Ty) : ∀ xs : List t.den, (cellsL t xs).length = xs.length * t.sz
  | [] => by simp [cellsL]
  | x :: xs => by rw [cellsL_cons, List.length_append, t.cells_length, cellsL_length t xs, List.length_cons, Nat.add_mul]; omega
theorem cellsL_one (t : Ty) (xs : List t.den) : ∀ u ∈ cellsL t xs, u.oneCell' = true := by
  intro u hu
  obtain ⟨l, hl, hu⟩ := List.mem_flatten.1 hu
  obtain ⟨x, _, rfl⟩ := List.mem_map.1 hl
  exact t.cells_one x u hu
theorem cellsL_drop (t : Ty) : ∀ (xs : List t.den) (k : Nat), cellsL t (xs.drop k) = (cellsL t xs).drop (k * t.sz)
  | xs, 0 => by simp
  | [], k + 1 => by simp [cellsL]
  | x :: xs, k + 1 => by
    rw [List.drop_succ_cons, cellsL_drop t xs k, cellsL_cons, Nat.add_mul, Nat.one_mul, Nat.add_comm (k * t.sz), ← t.cells_length x, List.drop_length_add_append]
theorem cellsL_take (t : Ty) : ∀ (xs : List t.den) (k : Nat), cellsL t (xs.take k) = (cellsL t xs).take (k * t.sz)
  | xs, 0 => by simp [cellsL]
  | [], k + 1 => by simp [cellsL]
  | x :: xs, k + 1 => by
    rw [List.take_succ_cons, cellsL_cons, cellsL_take t xs k, cellsL_cons, Nat.add_mul, Nat.one_mul, Nat.add_comm (k * t.sz), ← t.cells_length x, List.take_length_add_append]
/-- The cells of an element. -/
theorem cellsL_at (t : Ty) : ∀ (xs : List t.den) (i : Nat) (h : i < xs.length), ((cellsL t xs).drop (i * t.sz)).take t.sz = t.cells (xs[i]'h)
  | [], i, h => by simp at h
  | x :: xs, 0, h => by
    rw [Nat.zero_mul, List.drop_zero, cellsL_cons]
    show (t.cells x ++ cellsL t xs).take t.sz = t.cells x
    rw [← t.cells_length x, List.take_left']
    rfl
  | x :: xs, i + 1, h => by
    rw [cellsL_cons, Nat.add_mul, Nat.one_mul, Nat.add_comm (i * t.sz), ← List.drop_drop]
    have h2 : (t.cells x ++ cellsL t xs).drop t.sz = cellsL t xs := by rw [← t.cells_length x, List.drop_left']; rfl
    rw [h2]
    exact cellsL_at t xs i (by simpa using h)
theorem cellsL_set (t : Ty) : ∀ (xs : List t.den) (i : Nat) (_ : i < xs.length) (y : t.den), cellsL t (xs.set i y) = (cellsL t xs).take (i * t.sz) ++ t.cells y ++ (cellsL t xs).drop (i * t.sz + t.sz)
  | [], i, h, _ => by simp at h
  | x :: xs, 0, h, y => by
    have h2 : (t.cells x ++ cellsL t xs).drop t.sz = cellsL t xs := by rw [← t.cells_length x, List.drop_left']; rfl
    rw [List.set_cons_zero, cellsL_cons, cellsL_cons, Nat.zero_mul, List.take_zero, List.nil_append, Nat.zero_add, h2]
  | x :: xs, i + 1, h, y => by
    rw [List.set_cons_succ, cellsL_cons, cellsL_set t xs i (by simpa using h) y, cellsL_cons]
    rw [show (i + 1) * t.sz = (t.cells x).length + i * t.sz by rw [t.cells_length, Nat.add_mul, Nat.one_mul, Nat.add_comm]]
    rw [List.take_length_add_append, Nat.add_assoc, List.drop_length_add_append]
    simp [List.append_assoc]
theorem nth_eq (t : Ty) (xs : List t.den) (i : Int) (h : i.toNat < xs.length) : nth t xs i = xs[i.toNat]'h := by
  simp [nth, List.getD_eq_getElem?_getD, List.getElem?_eq_getElem h]
end Go.Ev

/- What the states of the evaluator tell of a world. -/
namespace Go.Ev
open Go.RowKit
def All2 {α β : Type} (R : α → β → Prop) : List α → List β → Prop
  | [], [] => True
  | a :: as, b :: bs => R a b ∧ All2 R as bs
  | _, _ => False
theorem All2.mono {α β : Type} {R S : α → β → Prop} (h : ∀ a b, R a b → S a b) : ∀ {l : List α} {m : List β}, All2 R l m → All2 S l m
  | [], [], _ => trivial
  | _ :: _, _ :: _, hl => ⟨h _ _ hl.1, hl.2.mono h⟩
  | [], _ :: _, hl => hl.elim
  | _ :: _, [], hl => hl.elim
theorem All2.length {α β : Type} {R : α → β → Prop} : ∀ {l : List α} {m : List β}, All2 R l m → l.length = m.length
  | [], [], _ => rfl
  | _ :: _, _ :: _, hl => congrArg (· + 1) hl.2.length
  | [], _ :: _, hl => hl.elim
  | _ :: _, [], hl => hl.elim
/-- Where the heap's objects lie. -/
structure HEnv where
  nx : Nat
  hv : Nat → Value
  zs : Nat → Nat
def HEnv.zero : HEnv := ⟨0, fun _ => undef, fun _ => 0⟩
structure HEnv.le (η η' : HEnv) : Prop where
  nx : η.nx ≤ η'.nx
  hv : ∀ n, n < η.nx → η'.hv n = η.hv n
  zs : ∀ n, n < η.nx → η'.zs n = η.zs n
theorem HEnv.le.refl (η : HEnv) : η.le η := ⟨Nat.le_refl _, fun _ _ => rfl, fun _ _ => rfl⟩
theorem HEnv.le.trans {a b c : HEnv} (h : a.le b) (k : b.le c) : a.le c := ⟨Nat.le_trans h.nx k.nx, fun n hn => (k.hv n (Nat.lt_of_lt_of_le hn h.nx)).trans (h.hv n hn), fun n hn => (k.zs n (Nat.lt_of_lt_of_le hn h.nx)).trans (h.zs n hn)⟩
/-- What is known of a slice's capacity: z: the size of the object's elements, 0 if nothing is known. -/
def Cap (ex : Bool) (z k : Nat) (A : Option Addr) (c : Nat) (A' : Option Addr) (c' : Nat) : Prop :=
  ex = true → (z ≠ 0 → k = 0 → A' = A ∧ c' = c) ∧ (z = 1 → ∃ q, q ≤ k ∧ c' + q = c ∧ ∀ ad, A = some ad → 0 < c' → A' = some (ad.add k))
theorem Cap.whole {ex : Bool} {z : Nat} {A : Option Addr} {c : Nat} : Cap ex z 0 A c A c := fun _ => ⟨fun _ _ => ⟨rfl, rfl⟩, fun _ => ⟨0, Nat.le_refl _, rfl, fun ad h _ => by rw [h, Addr.add_zero']⟩⟩
theorem Cap.zero {ex : Bool} {k : Nat} {A A' : Option Addr} {c c' : Nat} : Cap ex 0 k A c A' c' := fun _ => ⟨fun h => absurd rfl h, fun h => by cases h⟩
def EncS (η : HEnv) (ex : Bool) : Rf → Value → Prop
  | .nil, V => V = .slice none 0 0
  | .at n k len, V => n < η.nx ∧ ∃ A m c A' c', η.hv n = .slice A m c ∧ V = .slice A' len c' ∧ len ≤ c' ∧ (0 < len → ∃ ad, A = some ad ∧ A' = some (ad.add k)) ∧ Cap ex (η.zs n) k A c A' c'
def EncP (η : HEnv) : Pf → Value → Prop
  | .nil, V => V = .pointer none
  | .at n o, V => n < η.nx ∧ ∃ ad m c, η.hv n = .slice (some ad) m c ∧ V = .pointer (some (ad.add o))
def EncI (η : HEnv) : If → Value → Prop
  | .nil, V => V = .nilIface
  | .sl t r, V => ∃ u, V = .iface t u ∧ EncS η true r u
  | .pt t p, V => ∃ u, V = .iface t u ∧ EncP η p u
  | .two t a b, V => ∃ u v, V = .iface t (.agg #[u, v]) ∧ EncS η true a u ∧ EncS η true b v
def CellRel (η : HEnv) : Cell → Value → Prop
  | .v u, V => V = u ∧ u.oneCell' = true
  | .sr r, V => EncS η true r V
  | .pr p, V => EncP η p V
  | .ir i, V => EncI η i V
def HTy.mkv (t : HTy) (vs : List Value) : Value := if t.isStruct = true then .agg vs.toArray else vs.headD undef
def HTy.zcells : (t : HTy) → List Value
  | .p t => t.cells t.zero | .sr => [.slice none 0 0] | .pr => [.pointer none] | .ir => [.nilIface] | .one a => a.zcells | .pair a b => a.zcells ++ b.zcells
/-- A value that tells of the heap. -/
def HRel (η : HEnv) (t : HTy) (x : t.den) (V : Value) : Prop := ∃ vs, All2 (CellRel η) (t.cc x) vs ∧ V = t.mkv vs
theorem EncS.le {η η' : HEnv} (h : η.le η') {ex : Bool} : ∀ {r : Rf} {V : Value}, EncS η ex r V → EncS η' ex r V
  | .nil, _, hv => hv
  | .at n _ _, _, hv => by
    obtain ⟨h1, A, m, c, A', c', h2, h3⟩ := hv
    rw [← h.zs n h1] at h3
    exact ⟨Nat.lt_of_lt_of_le h1 h.nx, A, m, c, A', c', (h.hv n h1).trans h2, h3⟩
theorem EncP.le {η η' : HEnv} (h : η.le η') : ∀ {p : Pf} {V : Value}, EncP η p V → EncP η' p V
  | .nil, _, hv => hv
  | .at n _, _, hv => by
    obtain ⟨h1, ad, m, c, h2, h3⟩ := hv
    exact ⟨Nat.lt_of_lt_of_le h1 h.nx, ad, m, c, (h.hv n h1).trans h2, h3⟩
theorem EncI.le {η η' : HEnv} (h : η.le η') : ∀ {i : If} {V : Value}, EncI η i V → EncI η' i V
  | .nil, _, hv => hv
  | .sl _ _, _, ⟨u, h1, h2⟩ => ⟨u, h1, h2.le h⟩
  | .pt _ _, _, ⟨u, h1, h2⟩ => ⟨u, h1, h2.le h⟩
  | .two _ _ _, _, ⟨u, v, h1, h2, h3⟩ => ⟨u, v, h1, h2.le h, h3.le h⟩
theorem CellRel.le {η η' : HEnv} (h : η.le η') : ∀ {c : Cell} {V : Value}, CellRel η c V → CellRel η' c V
  | .v _, _, hv => hv
  | .sr _, _, hv => EncS.le h hv
  | .pr _, _, hv => EncP.le h hv
  | .ir _, _, hv => EncI.le h hv
theorem HRel.le {η η' : HEnv} (h : η.le η') {t : HTy} {x : t.den} {V : Value} (hv : HRel η t x V) : HRel η' t x V := by
  obtain ⟨vs, h1, h2⟩ := hv
  exact ⟨vs, h1.mono fun _ _ => CellRel.le h, h2⟩
structure Env where
  sv : Nat → Value
  ty : Nat → Ty
  hh : HEnv
/-- What is asked of the program's types. -/
structure SzOk (P : Program) (n : TypeId) (t : Ty) : Prop where
  info : (P.info? n).map (fun i => (i.zero, i.size, i.bytes)) = some (some (t.val t.zero), t.sz, (((P.info? n).map (·.bytes)).getD 0))
  bytes : ((P.info? n).map (·.bytes)).getD 0 ≤ 140
  agg : ∃ d, P.underlying n = some d ∧ (match d with | .struct _ | .array _ _ => true | _ => false) = t.isStruct
def BasicOk (P : Program) (n : TypeId) : Ty → Prop
  | .int k => P.underlying n = some (.int k)
  | .bool => P.underlying n = some .bool
  | .str => P.underlying n = some .string
  | .flt => P.underlying n = some (.float .f64)
  | .nils => ∃ e, P.underlying n = some (.slice e)
  | .nile => ∃ ms, P.underlying n = some (.interface ms)
  | _ => True
def FieldsOk (P : Program) (fs : Array Field) (t : Ty) : Prop :=
  (∀ j s, t.fld j = some s → ∃ f, fs[j]? = some f ∧ f.offset = t.off j ∧ SzOk P f.type s ∧ (s.isStruct = false → BasicOk P f.type s)) ∧ (∀ j f, fs[j]? = some f → ∃ s, t.fld j = some s)
def UndOk (P : Program) (n : TypeId) : Ty → Prop
  | .int k => P.underlying n = some (.int k)
  | .bool => P.underlying n = some .bool
  | .str => P.underlying n = some .string
  | .flt => P.underlying n = some (.float .f64)
  | .nils => ∃ e, P.underlying n = some (.slice e)
  | .nile => ∃ ms, P.underlying n = some (.interface ms)
  | .one a => ∃ fs, P.underlying n = some (.struct fs) ∧ FieldsOk P fs (.one a)
  | .pair a b => ∃ fs, P.underlying n = some (.struct fs) ∧ FieldsOk P fs (.pair a b)
/-- What is asked of types that may tell of the heap. -/
structure SzH (P : Program) (n : TypeId) (t : HTy) : Prop where
  info : (P.info? n).map (fun i => (i.zero, i.size, i.bytes)) = some (some (t.mkv t.zcells), t.sz, (((P.info? n).map (·.bytes)).getD 0))
  bytes : ((P.info? n).map (·.bytes)).getD 0 ≤ 140
  agg : ∃ d, P.underlying n = some d ∧ (match d with | .struct _ | .array _ _ => true | _ => false) = t.isStruct
def FieldsH (P : Program) (fs : Array Field) (t : HTy) : Prop :=
  (∀ j s, t.fld j = some s → ∃ f, fs[j]? = some f ∧ f.offset = t.off j ∧ SzH P f.type s) ∧ (∀ j f, fs[j]? = some f → ∃ s, t.fld j = some s)
def UndH (P : Program) (n : TypeId) (t : HTy) : Prop :=
  (t.isStruct = true → ∃ fs, P.underlying n = some (.struct fs) ∧ FieldsH P fs t) ∧
  (t = .sr → ∃ e, P.underlying n = some (.slice e)) ∧ (t = .pr → ∃ e, P.underlying n = some (.pointer e)) ∧ (t = .ir → ∃ ms, P.underlying n = some (.interface ms))
def isIfaceD : TypeDesc → Bool
  | .interface _ => true
  | _ => false
/-- A method of a type. -/
def MethOk (P : Program) (t : TypeId) (name : String) (f : FuncId) : Prop :=
  ∀ (k : Nat) (v : Value) (w : World), (method (k + 1) t v name).run P w = .ok (f, v) w
structure EqOk (P : Program) (n : TypeId) : Prop where
  held : P.stoodInHeld n = false
  guard : P.eqGuardType P.depth n = false
  names : ∀ fs, P.underlying n = some (.struct fs) → ∀ f ∈ fs, f.name ≠ "_"
structure TabOk (P : Program) (T : Tab) : Prop where
  ty : ∀ n t, T.ty n = some t → SzOk P n t ∧ UndOk P n t
  sl : ∀ n t e, T.sl n = some (t, e) → P.underlying n = some (.slice e) ∧ SzOk P e t ∧ UndOk P e t
  eq : ∀ n, T.eq n = true → EqOk P n
  lt : ∀ x y, T.lt x y = decide (x < y)
  le : ∀ x y, T.le x y = decide (x ≤ y)
  eqI : ∀ x y, T.eqI x y = decide (x = y)
  nle : ∀ x y, T.nle x y = decide (x ≤ y)
  eqS : ∀ x y, T.eqS x y = (x.toList == y.toList)
  i2f : ∀ n, T.i2f n = floatOfInt .f64 n
  f2i : ∀ k b, T.f2iOk k b = true → floatToIntVal .f64 b k = some (T.f2i k b)
  fo : ∀ o x y, T.fo o x y = (FloatKind.f64.format.order x y == some o)
  fa : ∀ o x y, T.faOk o x y = true → floatBits o .f64 x y = some (T.fa o x y)
  hty : ∀ n t, T.hty n = some t → SzH P n t ∧ UndH P n t
  hsl : ∀ n t e, T.hsl n = some (t, e) → P.underlying n = some (.slice e) ∧ SzH P e t
  meth : ∀ name t f, (t, f) ∈ T.meth name → MethOk P t name f
/-- Outside of 'may' the world is as it was. -/
structure Pres (may : Nat → Prop) (w w' : World) : Prop where
  os : w'.os = w.os
  tape : w'.tape = w.tape
  output : w'.output = w.output
  size : w.heap.size ≤ w'.heap.size
  block : ∀ k, k < w.heap.size → ¬ may k → w'.heap[k]? = w.heap[k]?
theorem Pres.refl (may : Nat → Prop) (w : World) : Pres may w w := ⟨rfl, rfl, rfl, Nat.le_refl _, fun _ _ _ => rfl⟩
theorem Pres.trans {may : Nat → Prop} {a b c : World} (h : Pres may a b) (k : Pres may b c) : Pres may a c :=
  ⟨k.os.trans h.os, k.tape.trans h.tape, k.output.trans h.output, Nat.le_trans h.size k.size, fun i hi hm => (k.block i (Nat.lt_of_lt_of_le hi h.size) hm).trans (h.block i hi hm)⟩
theorem Pres.mono {may may' : Nat → Prop} {a b : World} (h : Pres may a b) (hm : ∀ k, k < a.heap.size → may k → may' k) : Pres may' a b :=
  ⟨h.os, h.tape, h.output, h.size, fun i hi hn => h.block i hi (fun hk => hn (hm i hi hk))⟩
theorem Pres.grown {a b : World} {row : Option Nat} (h : a.grownBy b row) : Pres (fun k => some k = row) a b := ⟨h.os, h.tape, h.output, h.size, fun i hi hn => h.block i hi hn⟩
theorem Pres.below {may : Nat → Prop} {B : Nat} {a b : World} (h : Pres may a b) (hB : ∀ k, may k → B ≤ k) (hs : B ≤ a.heap.size) : Below B a b :=
  ⟨h.os, h.tape, h.output, h.size, fun k hk => h.block k (by omega) (fun hm => by have := hB k hm; omega)⟩
structure Ctx where
  P : Program
  T : Tab
  W0 : World
  we : World
  mine : Nat → Prop
  far : Nat → Prop
  vw : Nat → Prop
  h0 : HEnv
structure CtxOk (C : Ctx) : Prop where
  tab : TabOk C.P C.T
  new : ∀ k, C.we.heap.size ≤ k → C.mine k
  base : ∀ k, C.mine k → C.W0.heap.size ≤ k
  below : Below C.W0.heap.size C.W0 C.we
  far : ∀ k, C.far k → k < C.we.heap.size ∧ ¬ C.mine k
/-- A slice's value whose cells can be read. -/
def ReadV (w : World) (t : Ty) (xs : List t.den) (v : Value) : Prop :=
  ∃ A c, v = .slice A xs.length c ∧ xs.length ≤ c ∧ ∀ j u, (cellsL t xs)[j]? = some u → ∃ ad, A = some ad ∧ w.cell? (ad.add j) = some u
def OwnV (w : World) (t : Ty) (e : TypeId) (xs : List t.den) (v : Value) : Prop := w.ownsRow 0 e t.sz v xs.length (cellsL t xs)
structure RowOk (C : Ctx) (ε : Env) (w : World) (r : Nat) (x : Row) : Prop where
  ty : ε.ty r = x.t
  own : x.own = true → OwnV w x.t x.e x.xs (ε.sv r) ∧ ∀ g, (ε.sv r).ownBlock = some g → C.mine g
  read : ReadV w x.t x.xs (ε.sv r)
structure Mem (C : Ctx) (rw : RW) (ε : Env) (w : World) : Prop where
  ok : ∀ r x, row rw r = some x → RowOk C ε w r x
  sep : ∀ r x r' x', row rw r = some x → x.own = true → row rw r' = some x' → r ≠ r' → (x'.own = true ∨ x'.xs ≠ []) → ∀ g, (ε.sv r).ownBlock = some g → (ε.sv r').ownBlock ≠ some g
  pres : Pres C.mine C.we w
  far : ∀ r x, row rw r = some x → ¬ C.vw r → (x.own = true ∨ x.xs ≠ []) → ∀ g, (ε.sv r).ownBlock = some g → ¬ C.far g
/-- A part of a row: where it lies. -/
def CutOf (ε : Env) (r : Nat) (p : Bool) (lo hi : Int) (V : Value) : Prop :=
  ∃ A n c A' c', ε.sv r = .slice A n c ∧ n ≤ c ∧ V = .slice A' (hi - lo).toNat c' ∧ 0 ≤ lo ∧ lo ≤ hi ∧ hi ≤ n ∧ (hi - lo).toNat ≤ c' ∧
    (lo < hi → ∃ ad, A = some ad ∧ A' = some (ad.add (lo.toNat * (ε.ty r).sz))) ∧ (lo = 0 → A' = A ∧ c' = c) ∧ (p = true → lo = 0) ∧ c' + lo.toNat = c ∧ ∀ ad, A = some ad → 0 < c' → A' = some (ad.add (lo.toNat * (ε.ty r).sz))
def toPt : Value → Value
  | .slice A _ _ => .pointer A
  | v => v
def encC (ε : Env) : AC → Value
  | .v t x => t.val x
  | .sl r => ε.sv r
  | .pt r => toPt (ε.sv r)
  | .h _ _ => undef
def ACUsed (rw : RW) (ε : Env) : AC → Prop
  | .v _ _ => True
  | .sl r => rw r ≠ none
  | .pt r => rw r ≠ none ∧ ∃ ad n c, ε.sv r = .slice (some ad) n c ∧ 0 < n
  | .h _ _ => False
/-- A part of a result of a function that takes the heap. -/
def ACRel (rw : RW) (ε : Env) : AC → Value → Prop
  | .v t x, V => V = t.val x
  | .sl r, V => rw r ≠ none ∧ V = ε.sv r
  | .pt r, V => rw r ≠ none ∧ ∃ ad n c, ε.sv r = .slice (some ad) n c ∧ 0 < n ∧ V = .pointer (some ad)
  | .h t x, V => HRel ε.hh t x V
def VRel (rw : RW) (ε : Env) : AV → Value → Prop
  | .v t x, V => V = t.val x
  | .sl r, V => rw r ≠ none ∧ V = ε.sv r
  | .cut r p lo hi, V => rw r ≠ none ∧ CutOf ε r p lo hi V
  | .ptr r i, V => rw r ≠ none ∧ ∃ ad n c, ε.sv r = .slice (some ad) n c ∧ 0 ≤ i ∧ i < n ∧ V = .pointer (some (ad.add (i.toNat * (ε.ty r).sz)))
  | .fptr r i j, V => rw r ≠ none ∧ ∃ ad n c s, ε.sv r = .slice (some ad) n c ∧ 0 ≤ i ∧ i < n ∧ (ε.ty r).fld j = some s ∧ V = .pointer (some (ad.add (i.toNat * (ε.ty r).sz + (ε.ty r).off j)))
  | .op, _ => True
  | .nilS _ _, V => V = .slice none 0 0
  | .nilP, V => V = .pointer none
  | .u, V => V = undef
  | .tup l, V => (∀ c ∈ l, ACUsed rw ε c) ∧ V = .tuple (l.map (encC ε)).toArray
  | .h t x, V => HRel ε.hh t x V
  | .hc r c, V => EncS ε.hh false r V ∧ ∃ A, V = .slice A (rlen r) c ∧ (A = none → c = 0)
  | .fn f caps, V => ∃ cs, V = .func (.func f) #[] cs.toArray ∧ All2 (EncP ε.hh) caps cs
  | .ht l, V => ∃ Vs, V = .tuple Vs.toArray ∧ All2 (ACRel rw ε) l Vs
structure Ext (rw : RW) (ε : Env) (rw' : RW) (ε' : Env) : Prop where
  used : ∀ r, rw r ≠ none → rw' r ≠ none
  sv : ∀ r, rw r ≠ none → ε'.sv r = ε.sv r
  ty : ∀ r, rw r ≠ none → ε'.ty r = ε.ty r
  hh : ε'.hh = ε.hh
/-- The heap may have new objects. -/
structure Ext2 (rw : RW) (ε : Env) (rw' : RW) (ε' : Env) : Prop where
  used : ∀ r, rw r ≠ none → rw' r ≠ none
  sv : ∀ r, rw r ≠ none → ε'.sv r = ε.sv r
  ty : ∀ r, rw r ≠ none → ε'.ty r = ε.ty r
  hh : ε.hh.le ε'.hh
theorem Ext.to2 {rw : RW} {ε : Env} {rw' : RW} {ε' : Env} (h : Ext rw ε rw' ε') : Ext2 rw ε rw' ε' := ⟨h.used, h.sv, h.ty, h.hh ▸ HEnv.le.refl _⟩
theorem Ext2.refl (rw : RW) (ε : Env) : Ext2 rw ε rw ε := ⟨fun _ h => h, fun _ _ => rfl, fun _ _ => rfl, HEnv.le.refl _⟩
theorem Ext2.trans {a : RW} {ε : Env} {b : RW} {ε1 : Env} {c : RW} {ε2 : Env} (h : Ext2 a ε b ε1) (k : Ext2 b ε1 c ε2) : Ext2 a ε c ε2 :=
  ⟨fun r hr => k.used r (h.used r hr), fun r hr => (k.sv r (h.used r hr)).trans (h.sv r hr), fun r hr => (k.ty r (h.used r hr)).trans (h.ty r hr), h.hh.trans k.hh⟩
theorem Ext.refl (rw : RW) (ε : Env) : Ext rw ε rw ε := ⟨fun _ h => h, fun _ _ => rfl, fun _ _ => rfl, rfl⟩
theorem Ext.trans {a : RW} {ε : Env} {b : RW} {ε1 : Env} {c : RW} {ε2 : Env} (h : Ext a ε b ε1) (k : Ext b ε1 c ε2) : Ext a ε c ε2 :=
  ⟨fun r hr => k.used r (h.used r hr), fun r hr => (k.sv r (h.used r hr)).trans (h.sv r hr), fun r hr => (k.ty r (h.used r hr)).trans (h.ty r hr), k.hh.trans h.hh⟩
theorem ACRel.ext {rw rw' : RW} {ε ε' : Env} (h : Ext2 rw ε rw' ε') : ∀ {c : AC} {V : Value}, ACRel rw ε c V → ACRel rw' ε' c V
  | .v _ _, _, hv => hv
  | .sl r, _, hv => ⟨h.used r hv.1, hv.2.trans (h.sv r hv.1).symm⟩
  | .pt r, _, hv => by
    refine ⟨h.used r hv.1, ?_⟩
    rw [h.sv r hv.1]
    exact hv.2
  | .h _ _, _, hv => HRel.le h.hh hv
theorem VRel.ext2 {rw rw' : RW} {ε ε' : Env} (h : Ext2 rw ε rw' ε') : ∀ {av : AV} {V : Value}, VRel rw ε av V → VRel rw' ε' av V
  | .v _ _, _, hv => hv
  | .sl r, _, hv => ⟨h.used r hv.1, hv.2.trans (h.sv r hv.1).symm⟩
  | .cut r p lo hi, _, hv => by
    refine ⟨h.used r hv.1, ?_⟩
    unfold CutOf
    rw [h.sv r hv.1, h.ty r hv.1]
    exact hv.2
  | .ptr r i, _, hv => by
    refine ⟨h.used r hv.1, ?_⟩
    rw [h.sv r hv.1, h.ty r hv.1]
    exact hv.2
  | .fptr r i j, _, hv => by
    refine ⟨h.used r hv.1, ?_⟩
    rw [h.sv r hv.1, h.ty r hv.1]
    exact hv.2
  | .op, _, _ => trivial
  | .nilS _ _, _, hv => hv
  | .nilP, _, hv => hv
  | .u, _, hv => hv
  | .tup l, V, hv => by
    refine ⟨fun c hc => ?_, ?_⟩
    · have := hv.1 c hc
      cases c with
      | v t x => trivial
      | sl r => exact h.used r this
      | pt r =>
        refine ⟨h.used r this.1, ?_⟩
        rw [h.sv r this.1]
        exact this.2
      | h t x => exact this.elim
    · rw [hv.2]
      congr 2
      apply List.map_congr_left
      intro c hc
      have := hv.1 c hc
      cases c with
      | v t x => rfl
      | sl r => exact (h.sv r this).symm
      | pt r => exact congrArg toPt (h.sv r this.1).symm
      | h t x => exact this.elim
  | .h _ _, _, hv => HRel.le h.hh hv
  | .hc _ _, _, hv => ⟨EncS.le h.hh hv.1, hv.2⟩
  | .fn _ _, _, ⟨cs, h1, h2⟩ => ⟨cs, h1, h2.mono fun _ _ => EncP.le h.hh⟩
  | .ht _, _, ⟨Vs, h1, h2⟩ => ⟨Vs, h1, h2.mono fun _ _ => ACRel.ext h⟩
theorem VRel.ext {rw rw' : RW} {ε ε' : Env} (h : Ext rw ε rw' ε') {av : AV} {V : Value} (hv : VRel rw ε av V) : VRel rw' ε' av V := hv.ext2 h.to2
def Slots (rw : RW) (ε : Env) (g : Nat → Option AV) (a : Act) : Prop := ∀ n av, g n = some av → VRel rw ε av (a.tmps.getD n undef)
section
variable {rw : RW} {ε : Env} {g : Nat → Option AV} {a : Act} {T : Tab}
theorem constV_rel {ty : TypeId} {v : Value} {av : AV} (h : constV T ty v = some av) : VRel rw ε av v := by
  unfold constV at h
  split at h
  · cases h; rfl
  · cases h; rfl
  · cases h; rfl
  · cases h; rfl
  · split at h
    · cases h; rfl
    · split at h
      · cases h; rfl
      · split at h
        · cases h; exact ⟨[.slice none 0 0], ⟨rfl, trivial⟩, rfl⟩
        · cases h
  · split at h
    · cases h; exact ⟨[.pointer none], ⟨rfl, trivial⟩, rfl⟩
    · cases h; rfl
  · split at h
    · cases h; rfl
    · split at h
      · cases h; exact ⟨[.nilIface], ⟨rfl, trivial⟩, rfl⟩
      · cases h
  · cases h
theorem opd_rel (hS : Slots rw ε g a) {ty : TypeId} {x : Operand} {av : AV} (h : opd T g ty x = some av) : VRel rw ε av (a.eval x) := by
  cases x with
  | tmp t => exact hS t av h
  | const v => exact constV_rel h
  | global _ => cases h
  | func f => cases h; exact ⟨[], rfl, trivial⟩
theorem opdInt_rel (hS : Slots rw ε g a) {x : Operand} {n : Int} (h : opdInt T g x = some n) : ∃ k, a.eval x = .int k n := by
  unfold opdInt at h
  split at h
  · rename_i v hv
    have hr := opd_rel hS hv
    unfold intOf at h
    split at h
    · rename_i k m
      cases h
      exact ⟨k, hr⟩
    · cases h
  · cases h
end
theorem row_used {rw : RW} {r : Nat} {x : Row} (h : row rw r = some x) : rw r ≠ none := by
  intro h0
  unfold row at h
  rw [h0] at h
  cases h
theorem chk_some {R : Type} {c : Bool} {a : Option R} {r : R} (h : chk c a = some r) : c = true ∧ a = some r := by
  cases c
  · cases h
  · exact ⟨rfl, h⟩
theorem bif_some {R : Type} {c : Bool} {a : Option R} {r : R} (h : (bif c then a else none) = some r) : c = true ∧ a = some r := by
  cases c
  · cases h
  · exact ⟨rfl, h⟩
/-! ### the operations' runs -/
theorem wp_value {P : Program} {o : Oper} {a : Act} {w w' : World} {V : Value} {next : Act → World → Prop} {Q : Exit → Act → World → Prop}
    (h : (execOp a.eval o).run P w = .ok (.value V) w') (hn : next (a.put o.dst V) w') : o.wp P a w next Q := by
  unfold Oper.wp
  rw [h]
  exact hn
theorem wp_skipV {P : Program} {o : Oper} {a : Act} {w w' : World} {next : Act → World → Prop} {Q : Exit → Act → World → Prop}
    (h : (execOp a.eval o).run P w = .ok .skip w') (hn : next (a.put o.dst undef) w') : o.wp P a w next Q := by
  unfold Oper.wp
  rw [h]
  exact hn
theorem info_of {P : Program} {n : TypeId} {t : Ty} (h : SzOk P n t) : ∃ i, P.info? n = some i ∧ i.zero = some (t.val t.zero) ∧ i.size = t.sz ∧ i.bytes ≤ 140 := by
  obtain ⟨i, hi, hzz⟩ := Option.map_eq_some_iff.1 h.info
  simp only [Prod.mk.injEq] at hzz
  obtain ⟨hz, hs, _⟩ := hzz
  have hb := h.bytes
  rw [hi] at hb
  exact ⟨i, hi, hz, hs, hb⟩
theorem run_sizeOf {P : Program} {n : TypeId} {t : Ty} (h : SzOk P n t) (w : World) : (sizeOf n).run P w = .ok t.sz w := by
  obtain ⟨i, hi, _, hs, _⟩ := info_of h
  simp [sizeOf, typeInfo, hi, hs]
theorem run_isAgg {P : Program} {n : TypeId} {t : Ty} (h : SzOk P n t) (w : World) : (isAgg n).run P w = .ok t.isStruct w := by
  obtain ⟨d, hd, ha⟩ := h.agg
  rw [← ha]
  unfold isAgg
  rw [Sem.run_bind, run_underlying hd w]
  cases d <;> rfl
theorem run_loadVar {P : Program} {n : TypeId} {t : Ty} (h : SzOk P n t) (w : World) (ad : Addr) (x : t.den) (hc : ∀ j u, (t.cells x)[j]? = some u → w.cell? (ad.add j) = some u) :
    (loadVar n ad).run P w = .ok (t.val x) w := by
  unfold loadVar
  rw [Sem.run_bind, run_isAgg h w]
  cases hs : t.isStruct with
  | true =>
    have hl := run_loadCells_list (P := P) w ad (t.cells x) hc
    rw [t.cells_length] at hl
    simp [Result.andThen, run_sizeOf h, hl, t.val_struct x hs]
  | false =>
    have h0 := hc 0 (t.val x) (by rw [t.cells_basic x hs]; rfl)
    simp only [Addr.add_zero'] at h0
    simp [Result.andThen, h0]
/-- A row's cells, one after the other. -/
theorem ReadV.at_ {w : World} {t : Ty} {xs : List t.den} {A : Option Addr} {n c : Nat} (h : ReadV w t xs (.slice A n c)) : n = xs.length ∧ n ≤ c ∧ ∀ i : Nat, (hi : i < xs.length) → ∃ ad, A = some ad ∧ ∀ j u, (t.cells (xs[i]'hi))[j]? = some u → w.cell? ((ad.add (i * t.sz)).add j) = some u := by
  obtain ⟨A', c', hv, hc, hr⟩ := h
  injection hv with h1 h2 h3
  subst h1; subst h2; subst h3
  refine ⟨rfl, hc, fun i hi => ?_⟩
  have key : ∀ j u, (t.cells (xs[i]'hi))[j]? = some u → (cellsL t xs)[i * t.sz + j]? = some u := by
    intro j u hu
    rw [← cellsL_at t xs i hi, List.getElem?_take] at hu
    split at hu
    · rw [List.getElem?_drop] at hu
      exact hu
    · cases hu
  obtain ⟨u0, hu0⟩ : ∃ u0, (t.cells (xs[i]'hi))[0]? = some u0 := ⟨_, List.getElem?_eq_getElem (by rw [t.cells_length]; exact t.sz_pos)⟩
  obtain ⟨ad, hA, _⟩ := hr _ _ (key 0 u0 hu0)
  refine ⟨ad, hA, fun j u hu => ?_⟩
  obtain ⟨ad', hA', hc'⟩ := hr _ _ (key j u hu)
  rw [hA] at hA'
  cases hA'
  rw [Addr.add_add]
  exact hc'
theorem own_read {w : World} {t : Ty} {e : TypeId} {xs : List t.den} {v : Value} (h : OwnV w t e xs v) : ReadV w t xs v := by
  rcases h.2 with ⟨rfl, h0⟩ | ⟨g, cap, cur, rfl, hb, hg, hn, hc, hs, ht⟩
  · have : xs = [] := List.eq_nil_of_length_eq_zero h0
    subst this
    exact ⟨none, 0, rfl, Nat.le_refl _, fun j u hu => by simp [cellsL] at hu⟩
  · refine ⟨some ⟨g, 0, none⟩, cap, rfl, hn, fun j u hu => ⟨_, rfl, ?_⟩⟩
    exact World.ownsRow.cells h (g := g) rfl j u hu
theorem own_ltG {w : World} {t : Ty} {e : TypeId} {xs : List t.den} {v : Value} (h : OwnV w t e xs v) (g : Nat) (hg : v.ownBlock = some g) : g < w.heap.size := (World.ownsRow.lt h g hg).2
theorem ReadV.lt {w : World} {t : Ty} {xs : List t.den} {v : Value} (h : ReadV w t xs v) (hx : xs ≠ []) (g : Nat) (hg : v.ownBlock = some g) : g < w.heap.size := by
  obtain ⟨A, c, hv, hc, hr⟩ := h
  subst hv
  cases xs with
  | nil => exact absurd rfl hx
  | cons x xs =>
    obtain ⟨u0, hu0⟩ : ∃ u0, (cellsL t (x :: xs))[0]? = some u0 := ⟨_, List.getElem?_eq_getElem (by rw [cellsL_length]; exact Nat.mul_pos (by simp) t.sz_pos)⟩
    obtain ⟨ad, hA, hcell⟩ := hr 0 u0 hu0
    subst hA
    have : ad.block = g := by simpa [Value.ownBlock] using hg
    subst this
    have := World.block_lt_of_cell? w _ hcell
    rwa [Addr.add_zero'] at this
/-- What is read stays, if its block does. -/
theorem ReadV.move {w w' : World} {t : Ty} {xs : List t.den} {v : Value} (h : ReadV w t xs v) (hm : xs ≠ [] → ∀ g, v.ownBlock = some g → w'.heap[g]? = w.heap[g]?) : ReadV w' t xs v := by
  obtain ⟨A, c, hv, hc, hr⟩ := h
  refine ⟨A, c, hv, hc, fun j u hu => ?_⟩
  obtain ⟨ad, hA, hcell⟩ := hr j u hu
  refine ⟨ad, hA, ?_⟩
  have hx : xs ≠ [] := by
    rintro rfl
    simp [cellsL] at hu
  have hb := hm hx ad.block (by rw [hv, hA]; rfl)
  have hbl : (ad.add j).block = ad.block := by unfold Addr.add; split <;> rfl
  rw [World.cell?_of_block (w := w) (by rw [hbl]; exact hb)]
  exact hcell
theorem OwnV.move {w w' : World} {t : Ty} {e : TypeId} {xs : List t.den} {v : Value} (h : OwnV w t e xs v) (hm : ∀ g, v.ownBlock = some g → w'.heap[g]? = w.heap[g]?) : OwnV w' t e xs v := by
  obtain ⟨h1, h2⟩ := h
  refine ⟨h1, ?_⟩
  rcases h2 with h2 | ⟨g, cap, cur, rfl, hg, hh, r⟩
  · exact .inl h2
  · exact .inr ⟨g, cap, cur, rfl, hg, (hm g rfl).trans hh, r⟩
end Go.Ev

/- Each operation that the evaluator knows does what it says: how memory changes. -/
namespace Go.Ev
open Go.RowKit
section
variable {C : Ctx} {rw rw' : RW} {ε ε' : Env} {w w' : World} {g : Nat → Option AV} {a : Act} {o : Oper}
theorem mem_step (hC : CtxOk C) (hM : Mem C rw ε w) {may : Nat → Prop} (hp : Pres may w w') (hmine : ∀ k, k < w.heap.size → may k → C.mine k) {N : Nat → Prop}
    (hold : ∀ r x, row rw' r = some x → ¬ N r → row rw r = some x ∧ ε'.sv r = ε.sv r ∧ ε'.ty r = ε.ty r ∧ ((x.own = true ∨ x.xs ≠ []) → ∀ g, (ε.sv r).ownBlock = some g → ¬ may g))
    (hnew : ∀ r x, row rw' r = some x → N r → RowOk C ε' w' r x ∧ ∀ g, (ε'.sv r).ownBlock = some g → may g ∨ w.heap.size ≤ g)
    (hsep : ∀ r x r' x', row rw' r = some x → row rw' r' = some x' → N r → N r' → r ≠ r' → ∀ g, (ε'.sv r).ownBlock = some g → (ε'.sv r').ownBlock ≠ some g) : Mem C rw' ε' w' := by
  have lt : ∀ r x, row rw r = some x → (x.own = true ∨ x.xs ≠ []) → ∀ g, (ε.sv r).ownBlock = some g → g < w.heap.size := by
    intro r x hr hx g hg
    have hok := hM.ok r x hr
    rcases hx with hx | hx
    · exact own_ltG (hok.own hx).1 g hg
    · exact hok.read.lt hx g hg
  constructor
  · intro r x hr
    by_cases hN : N r
    · exact (hnew r x hr hN).1
    · obtain ⟨h1, h2, h3, h4⟩ := hold r x hr hN
      have hok := hM.ok r x h1
      have mv : (x.own = true ∨ x.xs ≠ []) → ∀ g, (ε.sv r).ownBlock = some g → w'.heap[g]? = w.heap[g]? := fun hx g hg => hp.block g (lt r x h1 hx g hg) (h4 hx g hg)
      refine ⟨h3.trans hok.ty, fun hx => ?_, ?_⟩
      · rw [h2]
        exact ⟨(hok.own hx).1.move (mv (.inl hx)), (hok.own hx).2⟩
      · rw [h2]
        exact hok.read.move (fun hx => mv (.inr hx))
  · intro r x r' x' hr hx hr' hne hx' g hg
    by_cases hN : N r <;> by_cases hN' : N r'
    · exact hsep r x r' x' hr hr' hN hN' hne g hg
    · obtain ⟨k1, k2, k3, k4⟩ := hold r' x' hr' hN'
      rw [k2]
      intro hg'
      have h1 := lt r' x' k1 hx' g hg'
      have h2 := k4 hx' g hg'
      rcases (hnew r x hr hN).2 g hg with h3 | h3
      · exact h2 h3
      · omega
    · obtain ⟨k1, k2, k3, k4⟩ := hold r x hr hN
      rw [k2] at hg
      intro hg'
      have h1 := lt r x k1 (.inl hx) g hg
      have h2 := k4 (.inl hx) g hg
      rcases (hnew r' x' hr' hN').2 g hg' with h3 | h3
      · exact h2 h3
      · omega
    · obtain ⟨k1, k2, k3, k4⟩ := hold r x hr hN
      obtain ⟨l1, l2, l3, l4⟩ := hold r' x' hr' hN'
      rw [k2] at hg
      rw [l2]
      exact hM.sep r x r' x' k1 hx l1 hne hx' g hg
  · exact hM.pres.trans (hp.mono hmine)
  · intro r x hr hv hx g hg hf
    obtain ⟨f1, f2⟩ := hC.far g hf
    by_cases hN : N r
    · rcases (hnew r x hr hN).2 g hg with h3 | h3
      · exact f2 (hmine g (Nat.lt_of_lt_of_le f1 hM.pres.size) h3)
      · exact absurd f1 (Nat.not_lt.2 (Nat.le_trans hM.pres.size h3))
    · obtain ⟨k1, k2, k3, k4⟩ := hold r x hr hN
      rw [k2] at hg
      exact hM.far r x k1 hv hx g hg hf
/-- The world has drawn, or has a new block: nothing that was is turned. -/
theorem Mem.move (hC : CtxOk C) (hM : Mem C rw ε w) (hp : Pres (fun _ => False) w w') : Mem C rw ε w' :=
  mem_step hC hM (N := fun _ => False) hp (fun _ _ h => h.elim) (fun r x hr _ => ⟨hr, rfl, rfl, fun _ _ _ h => h⟩) (fun _ _ _ h => h.elim) (fun _ _ _ _ _ _ h => h.elim)
def Env.put (ε : Env) (d : Nat) (V : Value) (t : Ty) : Env := ⟨fun n => if n = d then V else ε.sv n, fun n => if n = d then t else ε.ty n, ε.hh⟩
theorem Env.put_sv_same (ε : Env) (d : Nat) (V : Value) (t : Ty) : (ε.put d V t).sv d = V := by simp [Env.put]
theorem Env.put_ty_same (ε : Env) (d : Nat) (V : Value) (t : Ty) : (ε.put d V t).ty d = t := by simp [Env.put]
theorem Env.put_sv_ne (ε : Env) {d n : Nat} (V : Value) (t : Ty) (h : n ≠ d) : (ε.put d V t).sv n = ε.sv n := by simp [Env.put, h]
theorem Env.put_ty_ne (ε : Env) {d n : Nat} (V : Value) (t : Ty) (h : n ≠ d) : (ε.put d V t).ty n = ε.ty n := by simp [Env.put, h]
theorem row_put_same (rw : RW) (d : Nat) (x : Row) : row (fun m => if m = d then some (some x) else rw m) d = some x := by simp [row]
theorem row_put_ne (rw : RW) {d n : Nat} (x : Option (Option Row)) (h : n ≠ d) : row (fun m => if m = d then x else rw m) n = row rw n := by simp [row, h]
theorem row_kill (rw : RW) (r : Nat) : row (fun m => if m = r then some none else rw m) r = none := by simp [row]
/-- What an operation must lead to. -/
def Good (C : Ctx) (rw : RW) (ε : Env) (a : Act) (w : World) (o : Oper) (v : AV) (us : Upd) : Prop :=
  ∀ (next : Act → World → Prop) (Q : Exit → Act → World → Prop), (∀ V ε' w', VRel (updF rw us) ε' v V → Ext rw ε (updF rw us) ε' → Mem C (updF rw us) ε' w' → next (a.put o.dst V) w') → o.wp C.P a w next Q
theorem good_pure (hM : Mem C rw ε w) {v : AV} {V : Value} (hr : (execOp a.eval o).run C.P w = .ok (.value V) w) (hv : VRel rw ε v V) : Good C rw ε a w o v [] :=
  fun _ _ h => wp_value hr (h V ε w hv (Ext.refl _ _) hM)
theorem isNew_eq {d : Nat} (h : isNew rw d = true) : rw d = none := by
  unfold isNew at h
  split at h
  · assumption
  · cases h
theorem ext_put {d : Nat} (h : rw d = none) (x : Option (Option Row)) (hx : x ≠ none) (V : Value) (t : Ty) : Ext rw ε (fun m => if m = d then x else rw m) (ε.put d V t) := by
  refine ⟨fun r hr => ?_, fun r hr => ?_, fun r hr => ?_, rfl⟩
  · show (if r = d then x else rw r) ≠ none
    split
    · exact hx
    · exact hr
  · exact Env.put_sv_ne _ _ _ (fun e => hr (e ▸ h))
  · exact Env.put_ty_ne _ _ _ (fun e => hr (e ▸ h))
/-- A new row in a new block. -/
theorem mem_new (hC : CtxOk C) (hM : Mem C rw ε w) {d : Nat} (hd : rw d = none) (hp : Pres (fun _ => False) w w') {t : Ty} {e : TypeId} {xs : List t.den} {V : Value} (ho : OwnV w' t e xs V) (hb : ∀ g, V.ownBlock = some g → w.heap.size ≤ g) :
    Mem C (updF rw [(d, some ⟨t, e, true, xs⟩)]) (ε.put d V t) w' := by
  refine mem_step hC hM (N := fun r => r = d) hp (fun _ _ h => h.elim) (fun r x hr hN => ?_) (fun r x hr hN => ?_) (fun r _ r' _ _ _ h1 h2 hne => absurd (h1.trans h2.symm) hne)
  · have hN' : r ≠ d := hN
    rw [show updF rw [(d, some ⟨t, e, true, xs⟩)] = (fun m => if m = d then some (some ⟨t, e, true, xs⟩) else rw m) from rfl, row_put_ne rw _ hN'] at hr
    exact ⟨hr, Env.put_sv_ne _ _ _ hN', Env.put_ty_ne _ _ _ hN', fun _ _ _ h => h⟩
  · have hN' : r = d := hN
    subst hN'
    rw [show updF rw [(r, some ⟨t, e, true, xs⟩)] = (fun m => if m = r then some (some ⟨t, e, true, xs⟩) else rw m) from rfl, row_put_same] at hr
    cases hr
    rw [Env.put_sv_same]
    refine ⟨⟨Env.put_ty_same _ _ _ _, fun _ => ?_, ?_⟩, fun g hg => .inr (hb g hg)⟩
    · rw [Env.put_sv_same]
      exact ⟨ho, fun g hg => hC.new g (Nat.le_trans hM.pres.size (hb g hg))⟩
    · rw [Env.put_sv_same]
      exact own_read ho
theorem good_new (hC : CtxOk C) (hM : Mem C rw ε w) {d : Nat} (hd : rw d = none) (hp : Pres (fun _ => False) w w') {t : Ty} {e : TypeId} {xs : List t.den} {V : Value} (ho : OwnV w' t e xs V) (hb : ∀ g, V.ownBlock = some g → w.heap.size ≤ g)
    (hr : (execOp a.eval o).run C.P w = .ok (.value V) w') : Good C rw ε a w o (.sl d) [(d, some ⟨t, e, true, xs⟩)] := by
  intro next Q h
  refine wp_value hr (h V (ε.put d V t) w' ⟨?_, (Env.put_sv_same _ _ _ _).symm⟩ (ext_put hd _ (by simp) V t) (mem_new hC hM hd hp ho hb))
  show (if d = d then _ else _) ≠ none
  simp
/-- A row of one's own gives its block to another one. -/
theorem mem_over (hC : CtxOk C) (hM : Mem C rw ε w) {d r : Nat} {y : Row} (hd : rw d = none) (hy : row rw r = some y) (hown : y.own = true) (hp : Pres (fun k => some k = (ε.sv r).ownBlock) w w') {t : Ty} {e : TypeId} {xs : List t.den} {V : Value} (ho : OwnV w' t e xs V)
    (hb : ∀ g, V.ownBlock = some g → some g = (ε.sv r).ownBlock ∨ w.heap.size ≤ g) :
    Mem C (updF rw [(r, none), (d, some ⟨t, e, true, xs⟩)]) (ε.put d V t) w' := by
  have hrd : r ≠ d := fun e => row_used hy (e ▸ hd)
  have hupd : updF rw [(r, none), (d, some ⟨t, e, true, xs⟩)] = fun m => if m = d then some (some ⟨t, e, true, xs⟩) else if m = r then some none else rw m := rfl
  have hmine : ∀ k, some k = (ε.sv r).ownBlock → C.mine k := fun k hk => ((hM.ok r y hy).own hown).2 k hk.symm
  rw [hupd]
  refine mem_step hC hM (N := fun n => n = d) hp (fun k _ h => hmine k h) (fun n x hr hN => ?_) (fun n x hr hN => ?_) (fun r _ r' _ _ _ h1 h2 hne => absurd (h1.trans h2.symm) hne)
  · have hN' : n ≠ d := hN
    rw [row_put_ne _ _ hN'] at hr
    have hnr : n ≠ r := by
      rintro rfl
      rw [row_kill] at hr
      cases hr
    rw [row_put_ne _ _ hnr] at hr
    refine ⟨hr, Env.put_sv_ne _ _ _ hN', Env.put_ty_ne _ _ _ hN', fun hx g hg hg' => ?_⟩
    exact hM.sep r y n x hy hown hr (Ne.symm hnr) hx g hg'.symm hg
  · have hN' : n = d := hN
    subst hN'
    rw [row_put_same] at hr
    cases hr
    rw [Env.put_sv_same]
    refine ⟨⟨Env.put_ty_same _ _ _ _, fun _ => ?_, ?_⟩, fun g hg => hb g hg⟩
    · rw [Env.put_sv_same]
      refine ⟨ho, fun g hg => ?_⟩
      rcases hb g hg with h1 | h1
      · exact hmine g h1
      · exact hC.new g (Nat.le_trans hM.pres.size h1)
    · rw [Env.put_sv_same]
      exact own_read ho
theorem good_over (hC : CtxOk C) (hM : Mem C rw ε w) {d r : Nat} {y : Row} (hd : rw d = none) (hy : row rw r = some y) (hown : y.own = true) (hp : Pres (fun k => some k = (ε.sv r).ownBlock) w w') {t : Ty} {e : TypeId} {xs : List t.den} {V : Value} (ho : OwnV w' t e xs V)
    (hb : ∀ g, V.ownBlock = some g → some g = (ε.sv r).ownBlock ∨ w.heap.size ≤ g) (hr : (execOp a.eval o).run C.P w = .ok (.value V) w') : Good C rw ε a w o (.sl d) [(r, none), (d, some ⟨t, e, true, xs⟩)] := by
  intro next Q h
  refine wp_value hr (h V (ε.put d V t) w' ⟨?_, (Env.put_sv_same _ _ _ _).symm⟩ ⟨fun n hn => ?_, fun n hn => ?_, fun n hn => ?_, rfl⟩ (mem_over hC hM hd hy hown hp ho hb))
  · show (if d = d then _ else _) ≠ none
    simp
  · show (if n = d then _ else if n = r then _ else rw n) ≠ none
    split
    · simp
    · split
      · simp
      · exact hn
  · exact Env.put_sv_ne _ _ _ (fun e => hn (e ▸ hd))
  · exact Env.put_ty_ne _ _ _ (fun e => hn (e ▸ hd))
/-- A store into a row of one's own. -/
theorem mem_set (hC : CtxOk C) (hM : Mem C rw ε w) {r : Nat} {y : Row} (hy : row rw r = some y) (hown : y.own = true) (hp : Pres (fun k => some k = (ε.sv r).ownBlock) w w') {xs : List y.t.den} (ho : OwnV w' y.t y.e xs (ε.sv r)) :
    Mem C (updF rw [(r, some ⟨y.t, y.e, true, xs⟩)]) ε w' := by
  have hmine : ∀ k, some k = (ε.sv r).ownBlock → C.mine k := fun k hk => ((hM.ok r y hy).own hown).2 k hk.symm
  rw [show updF rw [(r, some ⟨y.t, y.e, true, xs⟩)] = (fun m => if m = r then some (some ⟨y.t, y.e, true, xs⟩) else rw m) from rfl]
  refine mem_step hC hM (N := fun n => n = r) hp (fun k _ h => hmine k h) (fun n x hr hN => ?_) (fun n x hr hN => ?_) (fun r _ r' _ _ _ h1 h2 hne => absurd (h1.trans h2.symm) hne)
  · have hN' : n ≠ r := hN
    rw [row_put_ne _ _ hN'] at hr
    exact ⟨hr, rfl, rfl, fun hx g hg hg' => hM.sep r y n x hy hown hr (Ne.symm hN') hx g hg'.symm hg⟩
  · have hN' : n = r := hN
    subst hN'
    rw [row_put_same] at hr
    cases hr
    refine ⟨⟨(hM.ok n y hy).ty, fun _ => ⟨ho, fun g hg => hmine g hg.symm⟩, own_read ho⟩, fun g hg => .inl hg.symm⟩
theorem ext_set {r : Nat} {x : Row} : Ext rw ε (updF rw [(r, some x)]) ε := by
  refine ⟨fun n hn => ?_, fun _ _ => rfl, fun _ _ => rfl, rfl⟩
  show (if n = r then _ else rw n) ≠ none
  split
  · simp
  · exact hn
end
end Go.Ev

/- Each operation that the evaluator knows does what it says: those that make no row. -/
namespace Go.Ev
open Go.RowKit
section
variable {C : Ctx} {rw : RW} {ε : Env} {w : World} {g : Nat → Option AV} {a : Act} {o : Oper} {R : Type}
theorem kbeq_refl (k : IntKind) : kbeq k k = true := by cases k <;> rfl
theorem run_intbin {P : Program} (op : BinOp) (xt : TypeId) (x y : Operand) (k j : IntKind) (m n : Int) (w : World) :
    (do eqGuard op xt x y (.int k m) (.int j n); binOp op xt (.int k m) (.int j n) : Sem Value).run P w = (binOp op xt (.int k m) (.int j n)).run P w := by
  simp [eqGuard_at_int]
theorem run_strbin {P : Program} (op : BinOp) (xt : TypeId) (x y : Operand) (s : ByteArray) (V : Value) (w : World) :
    (do eqGuard op xt x y (.string s) V; binOp op xt (.string s) V : Sem Value).run P w = (binOp op xt (.string s) V).run P w := by
  simp [eqGuard_at_string]
theorem run_boolbin {P : Program} (op : BinOp) (xt : TypeId) (x y : Operand) (s : Bool) (V : Value) (w : World) :
    (do eqGuard op xt x y (.bool s) V; binOp op xt (.bool s) V : Sem Value).run P w = (binOp op xt (.bool s) V).run P w := by
  simp [eqGuard_at_bool]
theorem run_equalIn_boolE {P : Program} (d : Nat) (t : TypeId) (x y : Bool) (w : World) (h : P.underlying t = some .bool) : (Op.equalIn (d + 1) t (.bool x) (.bool y)).run P w = .ok (x == y) w := by
  simp [Op.equalIn, run_underlying h]
theorem run_equal_bool {P : Program} (t : TypeId) (x y : Bool) (w : World) (h : P.underlying t = some .bool) : (Op.equal t (.bool x) (.bool y)).run P w = .ok (x == y) w := run_equalIn_boolE 9999 t x y w h
theorem run_eql_bool {P : Program} (t : TypeId) (x y : Bool) (w : World) (h : P.underlying t = some .bool) : (binOp .eql t (.bool x) (.bool y)).run P w = .ok (.bool (x == y)) w := by
  show (do pure (Value.bool (← Op.equal t (.bool x) (.bool y))) : Sem Value).run P w = _
  simp [run_equal_bool t x y w h, Result.andThen]
theorem run_neq_bool {P : Program} (t : TypeId) (x y : Bool) (w : World) (h : P.underlying t = some .bool) : (binOp .neq t (.bool x) (.bool y)).run P w = .ok (.bool (!(x == y))) w := by
  show (do pure (Value.bool (!(← Op.equal t (.bool x) (.bool y)))) : Sem Value).run P w = _
  simp [run_equal_bool t x y w h, Result.andThen]
theorem und_struct {P : Program} {n : TypeId} {t : Ty} (h : UndOk P n t) {j : Nat} {s : Ty} (hj : t.fld j = some s) : ∃ fs, P.underlying n = some (.struct fs) ∧ FieldsOk P fs t := by
  cases t <;> first | (cases hj; done) | exact h
theorem und_struct' {P : Program} {n : TypeId} {t : Ty} (h : UndOk P n t) (hj : t.isStruct = true) : ∃ fs, P.underlying n = some (.struct fs) ∧ FieldsOk P fs t := by
  cases t <;> first | (cases hj; done) | exact h
theorem run_part {P : Program} {n : TypeId} {s : Ty} (h : SzOk P n s) (w : World) (cs : Array Value) (off : Nat) (y : s.den) (hc : s.cells y = (cs.toList.drop off).take s.sz) :
    (part n cs off).run P w = .ok (s.val y) w := by
  unfold part
  rw [Sem.run_bind, run_isAgg h w]
  cases hs : s.isStruct with
  | true =>
    have : (cs.extract off (off + s.sz)) = (s.cells y).toArray := by
      apply Array.ext'
      rw [hc, Array.toList_extract, List.extract_eq_take_drop]
      congr 1
      omega
    simp [Result.andThen, run_sizeOf h, this, s.val_struct y hs]
  | false =>
    have h0 : cs[off]? = some (s.val y) := by
      have h1 : (s.cells y)[0]? = some (s.val y) := by rw [s.cells_basic y hs]; rfl
      rw [hc, List.getElem?_take] at h1
      split at h1
      · rw [List.getElem?_drop] at h1
        simpa using h1
      · cases h1
    simp [Result.andThen, h0]
/-- Equality of structs. -/
theorem run_eqB {P : Program} {T : Tab} (hT : TabOk P T) {n : TypeId} {t : Ty} (h : BasicOk P n t) {x y : t.den} {c : Bool} (hc : eqB T t x y = some c) (d : Nat) (w : World) : (Op.equalIn (d + 1) n (t.val x) (t.val y)).run P w = .ok c w := by
  cases t with
  | int k =>
    cases hc
    have hu : P.underlying n = some (.int k) := h
    show (Op.equalIn (d + 1) n (.int k x) (.int k y)).run P w = _
    rw [run_equalIn_int w d n k k x y hu, hT.eqI]
    congr 1
  | bool =>
    cases hc
    have hu : P.underlying n = some .bool := h
    exact run_equalIn_bool' w d n x y hu
  | str =>
    cases hc
    have hu : P.underlying n = some .string := h
    rw [hT.eqS]
    exact run_equalIn_string w d n x y hu
  | flt => cases hc
  | nils => cases hc
  | nile => cases hc
  | one a => cases hc
  | pair a b => cases hc
theorem run_eqFields {P : Program} {T : Tab} (hT : TabOk P T) {xs ys : Array Value} (d : Nat) (w : World) : ∀ (t : Ty) (off : Nat) (fs : List Field) (x y : t.den) (c : Bool), eqF T t x y = some c → t.cells x = xs.toList.drop off → t.cells y = ys.toList.drop off → (∀ f ∈ fs, f.name ≠ "_") →
    (∀ j s, t.fld j = some s → ∃ f, fs[j]? = some f ∧ f.offset = off + t.off j ∧ SzOk P f.type s ∧ (s.isStruct = false → BasicOk P f.type s)) → (∀ j f, fs[j]? = some f → ∃ s, t.fld j = some s) → (Op.eqFields (d + 1) xs ys fs).run P w = .ok c w
  | .int _, _, _, _, _, _, h, _, _, _, _, _ => by cases h
  | .bool, _, _, _, _, _, h, _, _, _, _, _ => by cases h
  | .str, _, _, _, _, _, h, _, _, _, _, _ => by cases h
  | .flt, _, _, _, _, _, h, _, _, _, _, _ => by cases h
  | .nils, _, _, _, _, _, h, _, _, _, _, _ => by cases h
  | .nile, _, _, _, _, _, h, _, _, _, _, _ => by cases h
  | .one a, off, fs, x, y, c, h, hx, hy, hn, h1, h2 => by
    obtain ⟨f, hf, hoff, hsz, hb⟩ := h1 0 a rfl
    match fs, hf with
    | [], hf => simp at hf
    | f0 :: fs', hf =>
      have hf : f0 = f := by simpa using hf
      subst hf
      have hnil : fs' = [] := by
        cases fs' with
        | nil => rfl
        | cons g gs =>
          obtain ⟨s, hs⟩ := h2 1 g rfl
          cases hs
      subst hnil
      have hns : a.isStruct = false := by
        cases a <;> first | rfl | cases h
      have hoff : f0.offset = off := hoff
      have e1 := run_part hsz w xs f0.offset x (by rw [hoff, ← hx, ← a.cells_length x]; exact (List.take_length).symm)
      have e2 := run_part hsz w ys f0.offset y (by rw [hoff, ← hy, ← a.cells_length y]; exact (List.take_length).symm)
      have e3 := run_eqB hT (hb hns) (show eqB T a x y = some c from h) d w
      unfold Op.eqFields
      rw [if_pos (hn f0 (by simp))]
      simp only [Sem.run_bind, e1, e2, e3, Result.andThen_ok]
      cases c <;> simp [Op.eqFields]
  | .pair a b, off, fs, x, y, c, h, hx, hy, hn, h1, h2 => by
    unfold eqF at h
    split at h
    · rename_i c1 c2 hc1 hc2
      cases h
      obtain ⟨f, hf, hoff, hsz, hb⟩ := h1 0 a rfl
      match fs, hf with
      | [], hf => simp at hf
      | f0 :: fs', hf =>
        have hf : f0 = f := by simpa using hf
        subst hf
        have hns : a.isStruct = false := by
          cases a <;> first | rfl | cases hc1
        have hoff : f0.offset = off := hoff
        have hx : a.cells x.1 ++ b.cells x.2 = xs.toList.drop off := hx
        have hy : a.cells y.1 ++ b.cells y.2 = ys.toList.drop off := hy
        have e1 := run_part hsz w xs f0.offset x.1 (by rw [hoff, ← hx, ← a.cells_length x.1, List.take_left']; rfl)
        have e2 := run_part hsz w ys f0.offset y.1 (by rw [hoff, ← hy, ← a.cells_length y.1, List.take_left']; rfl)
        have e3 := run_eqB hT (hb hns) hc1 d w
        have ih := run_eqFields (P := P) hT (xs := xs) (ys := ys) d w b (off + a.sz) fs' x.2 y.2 c2 hc2 (by rw [← List.drop_drop, ← hx, ← a.cells_length x.1, List.drop_left']; rfl) (by rw [← List.drop_drop, ← hy, ← a.cells_length y.1, List.drop_left']; rfl) (fun f hf => hn f (List.mem_cons_of_mem _ hf))
          (fun j s hs => by
            obtain ⟨f', k1, k2, k3⟩ := h1 (j + 1) s hs
            refine ⟨f', by simpa using k1, ?_, k3⟩
            rw [k2]
            show off + (a.sz + b.off j) = _
            omega) (fun j f' hf' => by
            obtain ⟨s, hs⟩ := h2 (j + 1) f' (by simpa using hf')
            exact ⟨s, hs⟩)
        unfold Op.eqFields
        rw [if_pos (hn f0 (by simp))]
        simp only [Sem.run_bind, e1, e2, e3, Result.andThen_ok]
        cases c1
        · simp
        · simp [ih]
    · cases h
theorem fields_eq {P : Program} {n : TypeId} {fs : Array Field} (h : P.underlying n = some (.struct fs)) : P.fieldsOf n = fs := by simp [Program.fieldsOf, h]
theorem run_structEq {P : Program} {T : Tab} (hT : TabOk P T) {n : TypeId} {t : Ty} (hu : UndOk P n t) (he : EqOk P n) {x y : t.den} {c : Bool} (hc : eqF T t x y = some c) (d : Nat) (w : World) : (Op.equalIn (d + 2) n (t.val x) (t.val y)).run P w = .ok c w := by
  have hst : t.isStruct = true := by cases t <;> first | rfl | cases hc
  obtain ⟨fs, hf, h1, h2⟩ := und_struct' hu hst
  rw [t.val_struct x hst, t.val_struct y hst, run_equalIn_struct w (d + 1) n _ _ (by rw [fields_eq hf]; exact hf) he.held, fields_eq hf]
  exact run_eqFields hT d w t 0 fs.toList x y c hc (by simp) (by simp) (fun f hm => he.names fs hf f (by simpa using hm)) (fun j s hs => by
    obtain ⟨f, k1, k2, k3⟩ := h1 j s hs
    exact ⟨f, by simpa using k1, by rw [k2, Nat.zero_add], k3⟩) (fun j f hf' => h2 j f (by simpa using hf'))
theorem run_eqGuard_nil {P : Program} (w : World) (op : BinOp) (xt : TypeId) (x y : Operand) (h : (isC x || isC y) = true) : (eqGuard op xt x y .nilIface .nilIface).run P w = .ok () w := by
  unfold eqGuard
  cases x <;> cases y <;> first | (cases h; done) | (cases op <;> rfl)
theorem binV_sound (hC : CtxOk C) {xt : TypeId} {op : BinOp} {x y : Operand} {av bv : AV} {A B : Value} {K : AV → Option R} {r : R} (hA : VRel rw ε av A) (hB : VRel rw ε bv B) (h : binV C.T (isC x || isC y) xt op av bv K = some r) :
    ∃ v V, K v = some r ∧ VRel rw ε v V ∧ (do eqGuard op xt x y A B; binOp op xt A B : Sem Value).run C.P w = .ok V w := by
  unfold binV at h
  split at h
  · rename_i k m j n
    obtain rfl : A = .int k m := hA
    obtain rfl : B = .int j n := hB
    rw [run_intbin]
    split at h
    · rename_i z hz
      obtain ⟨h0, h⟩ := chk_some h
      have h0 : (0 : Int) ≤ n := (by simpa [hC.tab.lt, hC.tab.le, hC.tab.eqI, hC.tab.nle] using h0)
      refine ⟨_, _, h, rfl, ?_⟩
      unfold shI at hz
      have hn : ¬ ((n : Int) < 0) := Int.not_lt.2 h0
      split at hz <;> cases hz <;> simp [binOp, Op.shift, hn, Ty.val]
    · rename_i hz
      obtain ⟨hk, h⟩ := bif_some h
      cases kbeq_eq hk
      split at h
      · rename_i c hc
        refine ⟨_, _, h, rfl, ?_⟩
        unfold cmpI at hc
        split at hc <;> cases hc <;> simp [binOp, Op.intCmp, Ty.val, bne, hC.tab.eqI, hC.tab.lt, hC.tab.le] <;> first | rfl | skip
      · rename_i hc
        split at h
        · rename_i z hz'
          refine ⟨_, _, h, rfl, ?_⟩
          unfold arI at hz'
          split at hz' <;> cases hz' <;> simp [binOp, Op.intArith, Ty.val]
        · split at h
          · rename_i z hz'
            obtain ⟨h0, h⟩ := chk_some h
            have h0 : ¬ (n : Int) = 0 := by simpa [hC.tab.eqI] using h0
            refine ⟨_, _, h, rfl, ?_⟩
            unfold divI at hz'
            split at hz' <;> cases hz' <;> simp [binOp, Op.intDiv, h0, Ty.val]
          · split at h
            · rename_i z hz'
              refine ⟨_, _, h, rfl, ?_⟩
              unfold bitI at hz'
              split at hz' <;> cases hz' <;> simp [binOp, Op.intBits, Ty.val]
            · cases h
  · rename_i s t
    obtain rfl : A = .string s := hA
    obtain rfl : B = .string t := hB
    rw [run_strbin]
    split at h
    · rename_i c hc
      refine ⟨_, _, h, rfl, ?_⟩
      unfold cmpS at hc
      split at hc <;> cases hc <;> simp [binOp, Op.stringOp, Ty.val, hC.tab.eqS]
    · split at h
      · obtain ⟨h0, h⟩ := chk_some h
        have h0 : s.size + t.size ≤ 9223372036854775807 := (by simpa [hC.tab.lt, hC.tab.le, hC.tab.eqI, hC.tab.nle] using h0)
        refine ⟨_, _, h, rfl, ?_⟩
        have := run_string_add_sum (P := C.P) w s t h0
        show (Op.stringOp .add s t).run C.P w = _
        rw [this]
        rfl
      · cases h
  · rename_i s t
    obtain rfl : A = .bool s := hA
    obtain rfl : B = .bool t := hB
    rw [run_boolbin]
    split at h
    · rename_i ht
      have hu : C.P.underlying xt = some .bool := (hC.tab.ty _ _ ht).2
      exact ⟨_, _, h, rfl, run_eql_bool xt s t w hu⟩
    · rename_i ht
      have hu : C.P.underlying xt = some .bool := (hC.tab.ty _ _ ht).2
      exact ⟨_, _, h, rfl, run_neq_bool xt s t w hu⟩
    · cases h
  · rename_i s t
    obtain rfl : A = .float .f64 s := hA
    obtain rfl : B = .float .f64 t := hB
    have he : (do eqGuard op xt x y (.float .f64 s) (.float .f64 t); binOp op xt (.float .f64 s) (.float .f64 t) : Sem Value).run C.P w = (binOp op xt (.float .f64 s) (.float .f64 t)).run C.P w := by
      rw [Sem.run_bind]
      have : (eqGuard op xt x y (.float .f64 s) (.float .f64 t)).run C.P w = .ok () w := by
        unfold eqGuard
        split <;> rfl
      rw [this]
      rfl
    rw [he]
    split at h
    · rename_i c hc
      refine ⟨_, _, h, rfl, ?_⟩
      unfold cmpFl at hc
      split at hc <;> cases hc <;> simp [binOp, Op.floatCmp, Ty.val, hC.tab.fo, bne]
    · obtain ⟨h0, h⟩ := chk_some h
      exact ⟨_, _, h, rfl, run_float_arith w op xt .f64 s t _ (hC.tab.fa _ _ _ h0)⟩
  · obtain rfl : A = .slice none 0 0 := hA
    obtain rfl : B = .slice none 0 0 := hB
    have he : (do eqGuard op xt x y (.slice none 0 0) (.slice none 0 0); binOp op xt (.slice none 0 0) (.slice none 0 0) : Sem Value).run C.P w = (binOp op xt (.slice none 0 0) (.slice none 0 0)).run C.P w := by
      simp [eqGuard_at_slice]
    rw [he]
    split at h
    · rename_i ht
      obtain ⟨e, hu⟩ : ∃ e, C.P.underlying xt = some (.slice e) := (hC.tab.ty _ _ ht).2
      refine ⟨_, _, h, rfl, ?_⟩
      show (do pure (Value.bool (← Op.equal xt (.slice none 0 0) (.slice none 0 0))) : Sem Value).run C.P w = _
      simp [run_equal_slice_nil w xt e none 0 0 hu, Result.andThen, Ty.val]
    · rename_i ht
      obtain ⟨e, hu⟩ : ∃ e, C.P.underlying xt = some (.slice e) := (hC.tab.ty _ _ ht).2
      refine ⟨_, _, h, rfl, ?_⟩
      show (do pure (Value.bool (!(← Op.equal xt (.slice none 0 0) (.slice none 0 0)))) : Sem Value).run C.P w = _
      simp [run_equal_slice_nil w xt e none 0 0 hu, Result.andThen, Ty.val]
    · cases h
  · obtain rfl : A = .nilIface := hA
    obtain rfl : B = .nilIface := hB
    have hg := run_eqGuard_nil (P := C.P) w op xt x y
    have heq : ∀ ms, C.P.underlying xt = some (.interface ms) → (Op.equal xt .nilIface .nilIface).run C.P w = .ok true w := by
      intro ms hu
      have h1 : ∀ d : Nat, (Op.equalIn (d + 1) xt .nilIface .nilIface).run C.P w = .ok true w := fun d => by
        unfold Op.equalIn
        rw [Sem.run_bind, run_underlying hu]
        rfl
      exact h1 9999
    split at h
    · rename_i ht hc
      obtain ⟨ms, hu⟩ : ∃ ms, C.P.underlying xt = some (.interface ms) := (hC.tab.ty _ _ ht).2
      refine ⟨_, _, h, rfl, ?_⟩
      rw [Sem.run_bind, hg hc]
      show (do pure (Value.bool (← Op.equal xt .nilIface .nilIface)) : Sem Value).run C.P w = _
      simp [heq ms hu, Result.andThen, Ty.val]
    · rename_i ht hc
      obtain ⟨ms, hu⟩ : ∃ ms, C.P.underlying xt = some (.interface ms) := (hC.tab.ty _ _ ht).2
      refine ⟨_, _, h, rfl, ?_⟩
      rw [Sem.run_bind, hg hc]
      show (do pure (Value.bool (!(← Op.equal xt .nilIface .nilIface))) : Sem Value).run C.P w = _
      simp [heq ms hu, Result.andThen, Ty.val]
    · cases h
  · rename_i t x' s y' _ _ _ _ _ _
    obtain rfl : A = t.val x' := hA
    obtain rfl : B = s.val y' := hB
    split at h
    · rename_i u z ht hz
      obtain ⟨hb, h⟩ := bif_some h
      rw [Bool.and_eq_true] at hb
      have hut := Ty.beq_eq hb.2
      subst hut
      obtain ⟨hc, hz⟩ := cast?_eq (F := Ty.den) hz
      subst hc
      subst hz
      split at h
      · rename_i c hc
        have hU := (hC.tab.ty _ _ ht).2
        have hE := hC.tab.eq _ hb.1
        have hst : s.isStruct = true := by cases s <;> first | rfl | cases hc
        have hrun := run_structEq hC.tab hU hE hc 9998 w
        rw [s.val_struct _ hst, s.val_struct _ hst] at hrun ⊢
        have hg : ∀ op, (eqGuard op xt x y (.agg (s.cells x').toArray) (.agg (s.cells y').toArray)).run C.P w = .ok () w := fun op => run_eqGuard_agg w op xt x y _ _ hE.guard
        split at h
        · refine ⟨_, _, h, rfl, ?_⟩
          rw [Sem.run_bind, hg]
          show (binOp .eql xt _ _).run C.P w = _
          rw [run_eql_struct, hrun]
          rfl
        · refine ⟨_, _, h, rfl, ?_⟩
          rw [Sem.run_bind, hg]
          show (binOp .neq xt _ _).run C.P w = _
          rw [run_neq_struct, hrun]
          rfl
        · cases h
      · cases h
    · cases h
  · cases h
end
end Go.Ev

/- Each operation that the evaluator knows does what it says: parts of structs, reads, cuts. -/
namespace Go.Ev
open Go.RowKit
section
variable {C : Ctx} {rw : RW} {ε : Env} {w : World} {g : Nat → Option AV} {a : Act} {o : Oper} {R : Type}
theorem SzOk.cellsz {P : Program} {n : TypeId} {t : Ty} (h : SzOk P n t) : ∃ i, P.info? n = some i ∧ i.zero = some (t.val t.zero) ∧ i.size = t.sz ∧ i.bytes ≤ 140 := info_of h
theorem run_field (hC : CtxOk C) {n : TypeId} {t : Ty} (h : C.T.ty n = some t) {j : Nat} {s : Ty} (hj : t.fld j = some s) (x : t.den) (w : World) :
    (Instr.field n (t.val x) j).run C.P w = .ok ((t.get j x).1.val (t.get j x).2) w := by
  obtain ⟨fs, hu, hf⟩ := und_struct (hC.tab.ty _ _ h).2 hj
  obtain ⟨f, hfj, hoff, hsz, _⟩ := hf.1 j s hj
  have hst : t.isStruct = true := by cases t <;> first | (cases hj; done) | rfl
  have e := t.fld_get j x s hj
  have hc := t.get_cells j x s hj
  generalize t.get j x = p at e hc
  obtain ⟨p1, p2⟩ := p
  obtain rfl : p1 = s := e
  have hp := run_part (P := C.P) hsz w (t.cells x).toArray f.offset p2 (by rw [hoff]; exact hc)
  simp [Instr.field, run_underlying hu, hfj, t.val_struct x hst, asAgg, Result.andThen, hp]
theorem run_fieldAt (hC : CtxOk C) {n : TypeId} {t : Ty} (h : C.T.ty n = some t) {j : Nat} {s : Ty} (hj : t.fld j = some s) (ad : Addr) (w : World) :
    (Instr.fieldAt n (.pointer (some ad)) j).run C.P w = .ok (.pointer (some (ad.add (t.off j)))) w := by
  obtain ⟨fs, hu, hf⟩ := und_struct (hC.tab.ty _ _ h).2 hj
  obtain ⟨f, hfj, hoff, hsz, _⟩ := hf.1 j s hj
  have h0 := s.sz_pos
  simp [Instr.fieldAt, run_underlying hu, hfj, Instr.sureAddr, Result.andThen, fieldPlace, run_sizeOf hsz, Nat.ne_of_gt h0, hoff]
theorem ty_eq {ty : Ty} {x : Row} (h : Ty.beq ty x.t = true) : ty = x.t := Ty.beq_eq h
/-- A row's value and its cells. -/
theorem row_slice (hM : Mem C rw ε w) {r : Nat} {x : Row} (h : row rw r = some x) : ∃ A c, ε.sv r = .slice A x.xs.length c ∧ x.xs.length ≤ c ∧
    (∀ i : Nat, (hi : i < x.xs.length) → ∃ ad, A = some ad ∧ ∀ j u, (x.t.cells (x.xs[i]'hi))[j]? = some u → w.cell? ((ad.add (i * x.t.sz)).add j) = some u) := by
  obtain ⟨A, c, hv, hc, hr⟩ := (hM.ok r x h).read
  have h1 := (hM.ok r x h).read
  rw [hv] at h1
  exact ⟨A, c, hv, hc, (ReadV.at_ h1).2.2⟩
theorem elem_eq {P : Program} {t e : TypeId} (h : P.underlying t = some (.slice e)) : P.elem t = e := by simp [Program.elem, h]
theorem run_indexAt (hC : CtxOk C) {t : TypeId} {ty : Ty} {e : TypeId} (h : C.T.sl t = some (ty, e)) (ad : Addr) (n c : Nat) (k : IntKind) (i : Int) (h0 : 0 ≤ i) (h1 : i < n) (w : World) :
    (Instr.indexAt t (.slice (some ad) n c) (.int k i)).run C.P w = .ok (.pointer (some (ad.add (i.toNat * ty.sz)))) w := by
  obtain ⟨hu, hs, _⟩ := hC.tab.sl _ _ _ h
  have hel := elem_eq hu
  rw [run_indexAt_slice w t ad n c k i (by rw [hel]; exact hu), if_pos ⟨h0, h1⟩, hel, run_sizeOf hs]
  rfl
theorem good_indexAddr (hC : CtxOk C) (hM : Mem C rw ε w) {t : TypeId} {x i : Operand} (ho : o.op = .indexAddr t x i) {ty : Ty} {e : TypeId} (ht : C.T.sl t = some (ty, e)) {av : AV} (hx : VRel rw ε av (a.eval x)) {k : IntKind} {n : Int} (hi : a.eval i = .int k n) (h0 : 0 ≤ n) :
    (∀ r y, av = .sl r → row rw r = some y → ty = y.t → n < (y.xs.length : Int) → Good C rw ε a w o (.ptr r n) []) ∧
    (∀ r p lo hi y, av = .cut r p lo hi → row rw r = some y → ty = y.t → n < hi - lo → Good C rw ε a w o (.ptr r (lo + n)) []) := by
  constructor
  · rintro r y rfl hy rfl h1
    obtain ⟨hu, hV⟩ := hx
    obtain ⟨A, c, hv, hc, hr⟩ := row_slice hM hy
    obtain ⟨ad, hA, _⟩ := hr n.toNat (by omega)
    subst hA
    rw [hv] at hV
    refine good_pure hM (V := .pointer (some (ad.add (n.toNat * y.t.sz)))) ?_ ?_
    · simp [execOp, ho, hV, hi, run_indexAt hC ht ad _ c k n h0 h1 w, Result.andThen]
    · refine ⟨hu, ad, _, c, hv, h0, h1, ?_⟩
      rw [(hM.ok r y hy).ty]
  · rintro r p lo hq y rfl hy rfl h1
    obtain ⟨hu, A, m, c, A', c', hv, hmc, hV, hl0, hlh, hhm, hc', hne, _⟩ := hx
    obtain ⟨ad, hA, hA'⟩ := hne (by omega)
    subst hA; subst hA'
    rw [(hM.ok r y hy).ty] at hV
    refine good_pure hM (V := .pointer (some ((ad.add (lo.toNat * y.t.sz)).add (n.toNat * y.t.sz)))) ?_ ?_
    · simp [execOp, ho, hV, hi, run_indexAt hC ht _ _ c' k n h0 (show n < (((hq - lo).toNat : Nat) : Int) by omega) w, Result.andThen]
    · refine ⟨hu, ad, m, c, hv, by omega, by omega, ?_⟩
      rw [(hM.ok r y hy).ty, Addr.add_add, ← Nat.add_mul, show lo.toNat + n.toNat = (lo + n).toNat by omega]
theorem good_load (hC : CtxOk C) (hM : Mem C rw ε w) {s : TypeId} {x : Operand} (ho : o.op = .load s x) {ty : Ty} (ht : C.T.ty s = some ty) {r : Nat} {i : Int} (hx : VRel rw ε (.ptr r i) (a.eval x)) {y : Row} (hy : row rw r = some y) (he : ty = y.t) :
    Good C rw ε a w o (.v y.t (nth y.t y.xs i)) [] := by
  subst he
  obtain ⟨_, ad, n, c, hv, h0, h1, hV⟩ := hx
  obtain ⟨A, c', hv', hc', hr⟩ := row_slice hM hy
  rw [hv] at hv'
  injection hv' with e1 e2 e3
  subst e2; subst e3
  have hi : i.toNat < y.xs.length := by omega
  obtain ⟨ad', hA, hcell⟩ := hr i.toNat hi
  rw [← e1] at hA
  cases hA
  refine good_pure hM (V := y.t.val (nth y.t y.xs i)) ?_ rfl
  have hl := run_loadVar (P := C.P) (hC.tab.ty _ _ ht).1 w (ad.add (i.toNat * y.t.sz)) (nth y.t y.xs i) (by rw [nth_eq _ _ _ hi]; exact hcell)
  rw [(hM.ok r y hy).ty] at hV
  simp [execOp, ho, hV, Instr.loadAt, Instr.sureAddr, hl, Result.andThen]
theorem good_fload (hC : CtxOk C) (hM : Mem C rw ε w) {s : TypeId} {x : Operand} (ho : o.op = .load s x) {ty : Ty} (ht : C.T.ty s = some ty) {r : Nat} {i : Int} {j : Nat} (hx : VRel rw ε (.fptr r i j) (a.eval x)) {y : Row} (hy : row rw r = some y)
    (he : ty = (y.t.get j (nth y.t y.xs i)).1) : Good C rw ε a w o (.v (y.t.get j (nth y.t y.xs i)).1 (y.t.get j (nth y.t y.xs i)).2) [] := by
  obtain ⟨_, ad, n, c, f, hv, h0, h1, hf, hV⟩ := hx
  obtain ⟨A, c', hv', hc', hr⟩ := row_slice hM hy
  rw [hv] at hv'
  injection hv' with e1 e2 e3
  subst e2; subst e3
  have hi : i.toNat < y.xs.length := by omega
  obtain ⟨ad', hA, hcell⟩ := hr i.toNat hi
  rw [← e1] at hA
  cases hA
  rw [(hM.ok r y hy).ty] at hV hf
  have e := y.t.fld_get j (nth y.t y.xs i) f hf
  have hcs := y.t.get_cells j (nth y.t y.xs i) f hf
  rw [nth_eq _ _ _ hi] at hcs e he ⊢
  generalize y.t.get j (y.xs[i.toNat]'hi) = p at e hcs he
  obtain ⟨p1, p2⟩ := p
  obtain rfl : p1 = f := e
  obtain rfl : ty = p1 := he
  refine good_pure hM (V := ty.val p2) ?_ rfl
  have hl := run_loadVar (P := C.P) (hC.tab.ty _ _ ht).1 w (ad.add (i.toNat * y.t.sz + y.t.off j)) p2 (by
    intro q u hu
    show w.cell? _ = _
    simp only at hcs
    rw [hcs, List.getElem?_take] at hu
    split at hu
    · rw [List.getElem?_drop] at hu
      have := hcell _ u hu
      rw [Addr.add_add] at this ⊢
      rw [Nat.add_assoc]
      exact this
    · cases hu)
  simp [execOp, ho, hV, Instr.loadAt, Instr.sureAddr, hl, Result.andThen]
theorem good_fieldAddr (hC : CtxOk C) (hM : Mem C rw ε w) {s : TypeId} {x : Operand} {j : Nat} (ho : o.op = .fieldAddr s x j) {ty : Ty} (ht : C.T.ty s = some ty) {f : Ty} (hf : ty.fld j = some f) {r : Nat} {i : Int} (hx : VRel rw ε (.ptr r i) (a.eval x)) {y : Row} (hy : row rw r = some y) (he : ty = y.t) :
    Good C rw ε a w o (.fptr r i j) [] := by
  subst he
  obtain ⟨hu, ad, n, c, hv, h0, h1, hV⟩ := hx
  rw [(hM.ok r y hy).ty] at hV
  refine good_pure hM (V := .pointer (some (ad.add (i.toNat * y.t.sz + y.t.off j)))) ?_ ?_
  · have hl := run_fieldAt hC ht hf (ad.add (i.toNat * y.t.sz)) w
    rw [Addr.add_add] at hl
    simp [execOp, ho, hV, hl, Result.andThen]
  · refine ⟨hu, ad, n, c, f, hv, h0, h1, by rw [(hM.ok r y hy).ty]; exact hf, by rw [(hM.ok r y hy).ty]⟩
/-- A slice's run. -/
theorem run_cut (hC : CtxOk C) {t : TypeId} {ty : Ty} {e : TypeId} (h : C.T.sl t = some (ty, e)) (A : Option Addr) (n c : Nat) (lo hi : Int) (h0 : 0 ≤ lo) (h1 : lo ≤ hi) (h2 : hi ≤ n) (hnc : n ≤ c) (L H : Option Value)
    (hL : (∃ k, L = some (.int k lo)) ∨ (L = none ∧ lo = 0)) (hH : (∃ k, H = some (.int k hi)) ∨ (H = none ∧ hi = n)) (w : World) :
    (Instr.sliceAt t (.slice A n c) L H none).run C.P w = .ok (.slice (if c = lo.toNat then A else A.map (·.add (lo.toNat * ty.sz))) (hi - lo).toNat (c - lo.toNat)) w := by
  obtain ⟨hu, hs, _⟩ := hC.tab.sl _ _ _ h
  have hel := elem_eq hu
  have hu' : C.P.underlying t = some (.slice (C.P.elem t)) := by rw [hel]; exact hu
  rw [run_sliceAt_slice w t _ _ _ _ hu']
  have hsz := run_sizeOf hs w
  rw [← hel] at hsz
  have e1 : (hi - lo).toNat = hi.toNat - lo.toNat := by omega
  rcases hL with ⟨kl, rfl⟩ | ⟨rfl, rfl⟩
  · rcases hH with ⟨kh, rfl⟩ | ⟨rfl, rfl⟩
    · rw [run_slice_lh w t A n c hu' kl kh lo hi h0 h1 (by omega), hsz, e1]; rfl
    · rw [run_slice_l w t A n c hu' kl lo h0 h1, hsz, e1]; rfl
  · rcases hH with ⟨kh, rfl⟩ | ⟨rfl, rfl⟩
    · rw [run_slice_h w t A n c hu' kh hi (by omega) (by omega), hsz, e1]; rfl
    · rw [run_slice_all w t A n c hu', hsz, e1]; rfl
theorem good_cut (hC : CtxOk C) (hM : Mem C rw ε w) {t : TypeId} {x : Operand} {L H : Option Operand} (ho : o.op = .slice t x L H none) {ty : Ty} {e : TypeId} (ht : C.T.sl t = some (ty, e)) {av : AV} (hx : VRel rw ε av (a.eval x)) {lo hi : Int} (h0 : 0 ≤ lo) (h1 : lo ≤ hi)
    (hL : (∃ k, L.map a.eval = some (.int k lo)) ∨ (L.map a.eval = none ∧ lo = 0)) :
    (∀ r y, av = .sl r → row rw r = some y → ty = y.t → hi ≤ (y.xs.length : Int) → ((∃ k, H.map a.eval = some (.int k hi)) ∨ (H.map a.eval = none ∧ hi = (y.xs.length : Int))) → Good C rw ε a w o (.cut r (zeroLo L) lo hi) []) ∧
    (∀ r p l1 h1' y, av = .cut r p l1 h1' → row rw r = some y → ty = y.t → hi ≤ h1' - l1 → ((∃ k, H.map a.eval = some (.int k hi)) ∨ (H.map a.eval = none ∧ hi = h1' - l1)) → Good C rw ε a w o (.cut r (p && zeroLo L) (l1 + lo) (l1 + hi)) []) := by
  have hzero : zeroLo L = true → lo = 0 := by
    intro hz
    unfold zeroLo at hz
    split at hz
    · rcases hL with ⟨k, hk⟩ | ⟨_, h⟩
      · cases hk
      · exact h
    · rcases hL with ⟨k, hk⟩ | ⟨_, h⟩
      · have hk : some (Value.int _ 0) = some (Value.int k lo) := hk
        injection hk with hk
        injection hk with _ hk
        exact hk.symm
      · exact h
    · cases hz
  constructor
  · rintro r y rfl hy rfl h2 hH
    obtain ⟨hu, hV⟩ := hx
    obtain ⟨A, c, hv, hc, hr⟩ := row_slice hM hy
    rw [hv] at hV
    have hrun := run_cut hC ht A y.xs.length c lo hi h0 h1 h2 hc _ _ hL hH w
    refine good_pure hM (V := .slice (if c = lo.toNat then A else A.map (·.add (lo.toNat * y.t.sz))) (hi - lo).toNat (c - lo.toNat)) ?_ ⟨hu, A, y.xs.length, c, _, _, hv, hc, rfl, h0, h1, h2, by omega, fun hlt => ?_, fun hz => ?_, hzero, by omega, fun ad hA hc => ?_⟩
    · simp [execOp, ho, hV, hrun, Result.andThen]
    · obtain ⟨ad, hA, _⟩ := hr lo.toNat (by omega)
      refine ⟨ad, hA, ?_⟩
      rw [if_neg (by omega), hA, (hM.ok r y hy).ty]
      rfl
    · subst hz
      simp only [Int.toNat_zero, Nat.zero_mul, Nat.sub_zero, and_true]
      split
      · rfl
      · cases A <;> simp [Addr.add]
    · rw [if_neg (by omega), hA, (hM.ok r y hy).ty]
      rfl
  · rintro r p l1 h1' y rfl hy rfl h2 hH
    obtain ⟨hu, A, m, c, A', c', hv, hmc, hV, hl0, hlh, hhm, hc', hne, hz0, hp0, hcc, hca⟩ := hx
    have hrun := run_cut hC ht A' (h1' - l1).toNat c' lo hi h0 h1 (by omega) hc' _ _ hL (hH.imp id (fun h => ⟨h.1, by omega⟩)) w
    refine good_pure hM (V := .slice (if c' = lo.toNat then A' else A'.map (·.add (lo.toNat * y.t.sz))) (hi - lo).toNat (c' - lo.toNat)) ?_
      ⟨hu, A, m, c, _, _, hv, hmc, by rw [show l1 + hi - (l1 + lo) = hi - lo by omega], by omega, by omega, by omega, by omega, fun hlt => ?_, fun hz => ?_, fun hp => by rw [Bool.and_eq_true] at hp; have e1 := hzero hp.2; have e2 := hp0 hp.1; omega, by omega, fun ad hA hc => ?_⟩
    · simp [execOp, ho, hV, hrun, Result.andThen]
    · obtain ⟨ad, hA, hA'⟩ := hne (by omega)
      refine ⟨ad, hA, ?_⟩
      rw [if_neg (by omega), hA', (hM.ok r y hy).ty]
      simp only [Option.map_some]
      rw [Addr.add_add, ← Nat.add_mul, show l1.toNat + lo.toNat = (l1 + lo).toNat by omega]
    · obtain rfl : lo = 0 := by omega
      obtain ⟨e1, e2⟩ := hz0 (by omega)
      subst e1; subst e2
      simp only [Int.toNat_zero, Nat.zero_mul, Nat.sub_zero, and_true]
      split
      · rfl
      · cases A' <;> simp [Addr.add]
    · rw [if_neg (by omega), hca ad hA (by omega), (hM.ok r y hy).ty]
      simp only [Option.map_some]
      rw [Addr.add_add, ← Nat.add_mul, show l1.toNat + lo.toNat = (l1 + lo).toNat by omega]
/-- What a slice tells can be read. -/
theorem listOf_read (hM : Mem C rw ε w) {av : AV} {V : Value} (hv : VRel rw ε av V) {y : Row} (h : listOf rw av = some y) : ReadV w y.t y.xs V ∧ ((∃ r, av = .sl r ∧ row rw r = some y) ∨ (∃ r p lo hi x, av = .cut r p lo hi ∧ row rw r = some x ∧ y = ⟨x.t, x.e, false, (x.xs.drop lo.toNat).take (hi.toNat - lo.toNat)⟩) ∨ (∃ t e, av = .nilS t e ∧ y = ⟨t, e, false, []⟩)) := by
  unfold listOf at h
  split at h
  · rename_i r
    obtain ⟨_, rfl⟩ := hv
    exact ⟨(hM.ok r y h).read, .inl ⟨r, rfl, h⟩⟩
  · rename_i r p lo hi
    split at h
    · rename_i x hx
      cases h
      refine ⟨?_, .inr (.inl ⟨r, p, lo, hi, x, rfl, hx, rfl⟩)⟩
      obtain ⟨hu, A, m, c, A', c', hv, hmc, hV, hl0, hlh, hhm, hc', hne, hz0⟩ := hv
      obtain ⟨A2, c2, hv2, hc2, hr2⟩ := (hM.ok r x hx).read
      rw [hv] at hv2
      injection hv2 with e1 e2 e3
      subst e1; subst e2; subst e3
      have hlen : ((x.xs.drop lo.toNat).take (hi.toNat - lo.toNat)).length = (hi - lo).toNat := by
        rw [List.length_take, List.length_drop]; omega
      refine ⟨A', c', by rw [hV]; show _ = Value.slice A' ((x.xs.drop lo.toNat).take (hi.toNat - lo.toNat)).length c'; rw [hlen], by show ((x.xs.drop lo.toNat).take (hi.toNat - lo.toNat)).length ≤ c'; rw [hlen]; exact hc', fun j u hu => ?_⟩
      have hu : (cellsL x.t ((x.xs.drop lo.toNat).take (hi.toNat - lo.toNat)))[j]? = some u := hu
      have hlt : lo < hi := by
        by_cases hlt : lo < hi
        · exact hlt
        · rw [show hi.toNat - lo.toNat = 0 by omega] at hu
          simp [cellsL] at hu
      obtain ⟨ad, hA, hA'⟩ := hne hlt
      refine ⟨_, hA', ?_⟩
      rw [cellsL_take, cellsL_drop, List.getElem?_take] at hu
      split at hu
      · rw [List.getElem?_drop] at hu
        obtain ⟨ad', hA2, hcell⟩ := hr2 _ u hu
        rw [hA] at hA2
        cases hA2
        rw [(hM.ok r x hx).ty, Addr.add_add]
        exact hcell
      · cases hu
    · cases h
  · rename_i t e
    cases h
    have hv : V = .slice none 0 0 := hv
    subst hv
    exact ⟨⟨none, 0, rfl, Nat.le_refl _, fun j u hu => by simp [cellsL] at hu⟩, .inr (.inr ⟨t, e, rfl, rfl⟩)⟩
  · cases h
end
end Go.Ev

/- Each operation that the evaluator knows does what it says: structs that are built, stores, new rows. -/
namespace Go.Ev
open Go.RowKit
theorem foldl_set (off : Nat) : ∀ (vs : List Value) (k : Nat) (cs : Array Value), off + k + vs.length ≤ cs.size →
    ((vs.zipIdx k).foldl (fun cs p => cs.setIfInBounds (off + p.2) p.1) cs).toList = cs.toList.take (off + k) ++ vs ++ cs.toList.drop (off + k + vs.length)
  | [], k, cs, _ => by simp
  | v :: vs, k, cs, h => by
    have h' : off + (k + 1) + vs.length ≤ (cs.setIfInBounds (off + k) v).size := by simp at h ⊢; omega
    rw [List.zipIdx_cons, List.foldl_cons, foldl_set off vs (k + 1) _ h', Array.toList_setIfInBounds]
    have hlt : off + k < cs.toList.length := by simp at h ⊢; omega
    rw [List.length_cons, show off + (k + 1) = off + k + 1 by omega, show off + k + (vs.length + 1) = off + k + 1 + vs.length by omega, List.drop_set_of_lt (by omega)]
    have e1 : (cs.toList.set (off + k) v).take (off + k + 1) = cs.toList.take (off + k) ++ [v] := by
      rw [List.take_add_one]
      simp [List.take_set_of_le, List.getElem?_set_self hlt]
    rw [e1]
    simp [List.append_assoc]
theorem fill_one {place : Nat → Option (Nat × Nat)} {cells : Array Value} {i off size : Nat} {v : Value} {rest : List (Nat × Value)} (hp : place i = some (off, size)) (hs : v.cells.size = size) (hf : off + size ≤ cells.size) :
    Instr.fill place cells ((i, v) :: rest) = Instr.fill place (cells.toList.take off ++ v.cells.toList ++ cells.toList.drop (off + size)).toArray rest := by
  rw [Instr.fill]
  simp only [hp]
  rw [if_neg (by simp [hs]; omega)]
  congr 1
  apply Array.ext'
  have := foldl_set off v.cells.toList 0 cells (by simp; omega)
  simp only [Nat.add_zero, Array.length_toList, hs] at this
  rw [← this, ← Array.foldl_toList]
  simp only [Array.toList_zipIdx]
section
variable {C : Ctx} {rw : RW} {ε : Env} {w : World} {g : Nat → Option AV} {a : Act} {o : Oper} {R : Type}
theorem fill_put (hS : Slots rw ε g a) {t : Ty} {place : Nat → Option (Nat × Nat)} (hp : ∀ j s, t.fld j = some s → place j = some (t.off j, s.sz)) : ∀ (ps : List (Nat × Operand)) (x z : t.den), buildT C.T g t ps x = some z →
    Instr.fill place (t.cells x).toArray (ps.map fun p => (p.1, a.eval p.2)) = some (t.cells z).toArray
  | [], x, z, h => by cases h; rfl
  | (j, o) :: ps, x, z, h => by
    unfold buildT at h
    split at h
    · rename_i s y hy
      split at h
      · rename_i x' hx'
        have hv : a.eval o = s.val y := opd_rel hS hy
        have hf := t.put_fld j x s y x' hx'
        have hsz := t.off_sz j s hf
        rw [List.map_cons, hv, fill_one (hp j s hf) (by rw [s.val_cells]; simp [s.cells_length]) (by simp [t.cells_length]; exact hsz)]
        have ih := fill_put hS hp ps x' z h
        rw [t.put_cells j x s y x' hx'] at ih
        rw [s.val_cells]
        exact ih
      · cases h
    · cases h
theorem mapM_all {α β : Type} {f : α → Option β} : ∀ (l : List α), (∀ x ∈ l, ∃ y, f x = some y) → ∃ ys, l.mapM f = some ys ∧ ∀ j : Nat, ys[j]? = (l[j]?).bind f
  | [], _ => ⟨[], rfl, fun j => by simp⟩
  | x :: l, h => by
    obtain ⟨y, hy⟩ := h x (by simp)
    obtain ⟨ys, hys, hj⟩ := mapM_all l (fun x hx => h x (by simp [hx]))
    refine ⟨y :: ys, by simp [List.mapM_cons, hy, hys], fun j => ?_⟩
    cases j with
    | zero => simp [hy]
    | succ j => simpa using hj j
theorem good_build (hC : CtxOk C) (hM : Mem C rw ε w) (hS : Slots rw ε g a) {n : TypeId} {ps : Array (Nat × Operand)} (ho : o.op = .build n ps) {t : Ty} (ht : C.T.ty n = some t) (hst : t.isStruct = true) {z : t.den} (hz : buildT C.T g t ps.toList t.zero = some z) : Good C rw ε a w o (.v t z) [] := by
  obtain ⟨hsz, hund⟩ := hC.tab.ty _ _ ht
  obtain ⟨fs, hu, hf⟩ := und_struct' hund hst
  obtain ⟨i, hi, hzero, hisz, _⟩ := info_of hsz
  obtain ⟨places, hpl, hpj⟩ := mapM_all (f := fun f : Field => (C.P.info? f.type).map fun i => (f.offset, i.size)) fs.toList (fun f hfm => by
    obtain ⟨j, hj⟩ := List.mem_iff_getElem?.1 hfm
    have hj' : fs[j]? = some f := by simpa using hj
    obtain ⟨s, hs⟩ := hf.2 j f hj'
    obtain ⟨f', hf', _, hs', _⟩ := hf.1 j s hs
    rw [hj'] at hf'
    cases hf'
    obtain ⟨i', hi', _⟩ := info_of hs'
    exact ⟨_, by rw [hi']; rfl⟩)
  have hplace : ∀ j s, t.fld j = some s → (fun x => places.toArray[x]?) j = some (t.off j, s.sz) := by
    intro j s hs
    obtain ⟨f, hf', hoff, hs', _⟩ := hf.1 j s hs
    obtain ⟨i', hi', _, hsz', _⟩ := info_of hs'
    have := hpj j
    simp only [Array.getElem?_toList, hf', Option.bind_some, hi', Option.map_some, hoff, hsz'] at this
    simpa using this
  have hfill := fill_put (C := C) hS hplace ps.toList t.zero z hz
  have hb : C.P.built n (ps.map fun (i, x) => (i, a.eval x)).toList = some (t.cells z).toArray := by
    unfold Program.built
    simp only [hi, hu, hzero, hpl, t.val_cells]
    rw [Array.toList_map]
    exact hfill
  refine good_pure hM (V := t.val z) ?_ rfl
  have hrun := run_build (P := C.P) w n (ps.map fun (i, x) => (i, a.eval x)) _ hb
  simp [execOp, ho, hrun, t.val_struct z hst, Result.andThen]
/-! ### stores -/
theorem own_store {P : Program} {e : TypeId} {size n cap g' : Nat} {XS : List Value} (h : w.ownsRow 0 e size (.slice (some ⟨g', 0, none⟩) n cap) n XS) (off : Nat) (vs : List Value) (hl : off + vs.length ≤ n * size) (h1 : ∀ u ∈ vs, u.oneCell' = true) :
    ∃ w', (storeCells ⟨g', off, none⟩ vs).run P w = .ok () w' ∧ w'.ownsRow 0 e size (.slice (some ⟨g', 0, none⟩) n cap) n (XS.take off ++ vs ++ XS.drop (off + vs.length)) ∧ Pres (fun k => k = g') w w' := by
  rcases h.2 with ⟨h', _⟩ | ⟨g'', cap', cur, h', hb, hg, hnc, hcm, hcs, htake⟩
  · simp at h'
  · simp only [Value.slice.injEq, Option.some.injEq, Addr.mk.injEq, and_true, true_and] at h'
    obtain ⟨rfl, rfl⟩ := h'
    have hle : n * size ≤ cap * size := Nat.mul_le_mul_right _ hnc
    have hcur : cur.toList.length = cap * size := by rw [Array.length_toList, hcs]
    have hrun := run_storeCells_at P g' off e vs 0 cur w hg (by omega) h1
    simp only [Nat.add_zero] at hrun
    refine ⟨_, hrun, ⟨?_, .inr ⟨g', cap, _, rfl, hb, setRow_heap w g' cur _ e _ hg, hnc, hcm, ?_, ?_⟩⟩, ⟨rfl, rfl, rfl, by simp, fun k _ hk => setRow_other w g' k _ hk⟩⟩
    · have := h.1
      simp; omega
    · simp; omega
    · have hsplit : cur.toList = XS ++ cur.toList.drop (n * size) := by rw [← htake, List.take_append_drop]
      have hXS := h.1
      generalize cur.toList.drop (n * size) = rest at hsplit
      rw [hsplit]
      simp only [List.take_append_of_le_length (show off ≤ XS.length by omega), List.drop_append_of_le_length (show off + vs.length ≤ XS.length by omega)]
      rw [← List.append_assoc]
      rw [List.take_left']
      simp; omega
theorem run_storeVar {P : Program} {n : TypeId} {t : Ty} (h : SzOk P n t) (w w' : World) (ad : Addr) (x : t.den) (hr : (storeCells ad (t.cells x)).run P w = .ok () w') : (storeVar n ad (t.val x)).run P w = .ok () w' := by
  simp [storeVar, t.val_cells, run_sizeOf h, t.cells_length, hr, Result.andThen]
/-- A row that is stored into. -/
theorem own_form {t : Ty} {e : TypeId} {xs : List t.den} {ad : Addr} {n c : Nat} (h : OwnV w t e xs (.slice (some ad) n c)) : ∃ g', ad = ⟨g', 0, none⟩ ∧ n = xs.length := by
  rcases h.2 with ⟨h', _⟩ | ⟨g'', cap', cur, h', _⟩
  · simp at h'
  · injection h' with h1 h2 h3
    cases h1
    exact ⟨g'', rfl, h2⟩
theorem good_store (hC : CtxOk C) (hM : Mem C rw ε w) {s : TypeId} {x v : Operand} (ho : o.op = .store s x v) {ty : Ty} (ht : C.T.ty s = some ty) {y : Row} {r : Nat} {i : Int} (hx : VRel rw ε (.ptr r i) (a.eval x)) (hy : row rw r = some y) (hown : y.own = true) (he : ty = y.t) {z : y.t.den} (hv : a.eval v = y.t.val z) :
    Good C rw ε a w o .u [(r, some ⟨y.t, y.e, true, y.xs.set i.toNat z⟩)] := by
  subst he
  obtain ⟨hu, ad, n, c, hsv, h0, h1, hV⟩ := hx
  obtain ⟨ho1, hmine⟩ := (hM.ok r y hy).own hown
  have ho2 := ho1
  rw [hsv] at ho2
  obtain ⟨g', rfl, rfl⟩ := own_form ho2
  have hi : i.toNat < y.xs.length := by omega
  obtain ⟨w', hrun, hown', hpres⟩ := own_store (P := C.P) ho2 (i.toNat * y.t.sz) (y.t.cells z) (by
    rw [y.t.cells_length, ← Nat.succ_mul]
    exact Nat.mul_le_mul_right _ hi) (y.t.cells_one z)
  rw [y.t.cells_length, ← cellsL_set _ _ _ hi] at hown'
  rw [(hM.ok r y hy).ty, Addr.add_lit, Nat.zero_add] at hV
  intro next Q h
  refine wp_skipV (w' := w') ?_ (h undef ε w' rfl ext_set (mem_set hC hM hy hown ?_ ?_))
  · have := run_storeVar (hC.tab.ty _ _ ht).1 w w' ⟨g', i.toNat * y.t.sz, none⟩ z hrun
    simp [execOp, ho, hV, hv, Instr.storeAt, Instr.sureAddr, this, Result.andThen]
  · refine hpres.mono (fun k _ hk => ?_)
    rw [hsv, hk]
    rfl
  · rw [hsv]
    show w'.ownsRow 0 y.e y.t.sz _ (y.xs.set i.toNat z).length _
    rw [List.length_set]
    exact hown'
theorem good_fstore (hC : CtxOk C) (hM : Mem C rw ε w) {s : TypeId} {x v : Operand} (ho : o.op = .store s x v) {ty : Ty} (ht : C.T.ty s = some ty) {y : Row} {r : Nat} {i : Int} {j : Nat} (hx : VRel rw ε (.fptr r i j) (a.eval x)) (hy : row rw r = some y) (hown : y.own = true) {z : ty.den} (hv : a.eval v = ty.val z)
    {q : y.t.den} (hq : y.t.put j (nth y.t y.xs i) ty z = some q) : Good C rw ε a w o .u [(r, some ⟨y.t, y.e, true, y.xs.set i.toNat q⟩)] := by
  obtain ⟨hu, ad, n, c, f, hsv, h0, h1, hf, hV⟩ := hx
  obtain ⟨ho1, hmine⟩ := (hM.ok r y hy).own hown
  have ho2 := ho1
  rw [hsv] at ho2
  obtain ⟨g', rfl, rfl⟩ := own_form ho2
  have hi : i.toNat < y.xs.length := by omega
  have hfld := y.t.put_fld j _ ty z q hq
  have hsz := y.t.off_sz j ty hfld
  have hput := y.t.put_cells j _ ty z q hq
  have hle : (i.toNat + 1) * y.t.sz ≤ y.xs.length * y.t.sz := Nat.mul_le_mul_right _ hi
  rw [Nat.add_mul, Nat.one_mul] at hle
  obtain ⟨w', hrun, hown', hpres⟩ := own_store (P := C.P) ho2 (i.toNat * y.t.sz + y.t.off j) (ty.cells z) (by
    rw [ty.cells_length]
    omega) (ty.cells_one z)
  have hcs : (cellsL y.t y.xs).take (i.toNat * y.t.sz + y.t.off j) ++ ty.cells z ++ (cellsL y.t y.xs).drop (i.toNat * y.t.sz + y.t.off j + (ty.cells z).length) = cellsL y.t (y.xs.set i.toNat q) := by
    rw [cellsL_set _ _ _ hi, hput, ty.cells_length, nth_eq _ _ _ hi, ← cellsL_at _ _ _ hi]
    generalize cellsL y.t y.xs = L at *
    rw [List.take_add, List.take_take, Nat.min_eq_left (by omega), List.drop_take, List.drop_drop]
    have e2 : L.drop (i.toNat * y.t.sz + y.t.off j + ty.sz) = (L.drop (i.toNat * y.t.sz + (y.t.off j + ty.sz))).take (y.t.sz - (y.t.off j + ty.sz)) ++ L.drop (i.toNat * y.t.sz + y.t.sz) := by
      rw [show L.drop (i.toNat * y.t.sz + y.t.sz) = (L.drop (i.toNat * y.t.sz + (y.t.off j + ty.sz))).drop (y.t.sz - (y.t.off j + ty.sz)) by rw [List.drop_drop]; congr 1; omega, List.take_append_drop]
      congr 1
      omega
    rw [e2]
    simp [List.append_assoc]
  rw [hcs] at hown'
  rw [(hM.ok r y hy).ty, Addr.add_lit, Nat.zero_add] at hV
  intro next Q h
  refine wp_skipV (w' := w') ?_ (h undef ε w' rfl ext_set (mem_set hC hM hy hown ?_ ?_))
  · have := run_storeVar (hC.tab.ty _ _ ht).1 w w' ⟨g', i.toNat * y.t.sz + y.t.off j, none⟩ z hrun
    simp [execOp, ho, hV, hv, Instr.storeAt, Instr.sureAddr, this, Result.andThen]
  · refine hpres.mono (fun k _ hk => ?_)
    rw [hsv, hk]
    rfl
  · rw [hsv]
    show w'.ownsRow 0 y.e y.t.sz _ (y.xs.set i.toNat q).length _
    rw [List.length_set]
    exact hown'
end
end Go.Ev

/- Each operation that the evaluator knows does what it says: new rows, appends. -/
namespace Go.Ev
open Go.RowKit
section
variable {C : Ctx} {rw : RW} {ε : Env} {w : World} {g : Nat → Option AV} {a : Act} {o : Oper} {R : Type}
theorem opdDen_rel {T : Tab} (hS : Slots rw ε g a) {t : Ty} {x : Operand} {y : t.den} (h : opdDen T g t x = some y) : a.eval x = t.val y := by
  unfold opdDen at h
  split at h
  · rename_i v hv
    have hr := opd_rel hS hv
    unfold toDen at h
    split at h
    · rename_i s z
      obtain ⟨e, hy⟩ := cast?_eq (F := Ty.den) h
      subst e
      subst hy
      exact hr
    · cases h
  · cases h
/-- The elements of a slice that is written out. -/
theorem fill_elems {T : Tab} (hS : Slots rw ε g a) {t : Ty} : ∀ (ps : List (Nat × Operand)) (k : Nat) (xs : List t.den) (done : List t.den) (cells : Array Value), elems T g t k ps = some xs → done.length = k → cells.toList.take (k * t.sz) = cellsL t done → cells.size = (k + xs.length) * t.sz →
    Instr.fill (fun i => some (i * t.sz, t.sz)) cells (ps.map fun p => (p.1, a.eval p.2)) = some (cellsL t (done ++ xs)).toArray
  | [], k, xs, done, cells, h, hd, ht, hs => by
    cases h
    simp only [List.append_nil, List.length_nil, Nat.add_zero] at hs ⊢
    rw [List.map_nil, Instr.fill, ← ht, List.take_of_length_le (by simp [hs]), Array.toArray_toList]
  | (m, o) :: ps, k, xs, done, cells, h, hd, ht, hs => by
    unfold elems at h
    obtain ⟨hm, h⟩ := bif_some h
    have hm : m = k := Nat.eq_of_beq_eq_true hm
    subst hm
    split at h
    · rename_i y ys hy hys
      cases h
      have hv := opdDen_rel hS hy
      have hle : m * t.sz + t.sz ≤ cells.size := by
        rw [hs, ← Nat.succ_mul]
        exact Nat.mul_le_mul_right _ (by simp)
      rw [List.map_cons, hv, fill_one rfl (by rw [t.val_cells]; simp [t.cells_length]) hle, t.val_cells]
      have e1 : done ++ y :: ys = (done ++ [y]) ++ ys := by simp
      have hl : (cells.toList.take (m * t.sz)).length = m * t.sz := by rw [List.length_take, Array.length_toList]; omega
      rw [e1]
      refine fill_elems hS ps (m + 1) ys (done ++ [y]) _ hys (by simp [hd]) ?_ ?_
      · rw [cellsL_append, ← ht, cellsL_cons, cellsL_nil, List.append_nil]
        show (List.take (m * t.sz) cells.toList ++ t.cells y ++ _).take _ = _
        rw [List.take_left']
        rw [List.length_append, hl, t.cells_length, Nat.add_mul, Nat.one_mul]
      · simp only [List.size_toArray, List.length_append, hl, List.length_drop, Array.length_toList, t.cells_length]
        rw [hs] at hle ⊢
        rw [show m + 1 + ys.length = m + (y :: ys).length by rw [List.length_cons]; omega]
        omega
    · cases h
theorem good_buildSlice (hC : CtxOk C) (hM : Mem C rw ε w) (hS : Slots rw ε g a) {n : TypeId} {m : Nat} {ps : Array (Nat × Operand)} (ho : o.op = .buildSlice n m ps) {t : Ty} {e : TypeId} (ht : C.T.sl n = some (t, e)) {xs : List t.den} (hxs : elems C.T g t 0 ps.toList = some xs) (hm : xs.length = m) (hb : m * t.sz ≤ 100000) {d : Nat} (hd : rw d = none) :
    Good C rw ε a w o (.sl d) [(d, some ⟨t, e, true, xs⟩)] := by
  obtain ⟨hu, hs, _⟩ := hC.tab.sl _ _ _ ht
  obtain ⟨i, hi, hz, hsz, _⟩ := info_of hs
  subst hm
  have hmax : xs.length ≤ maxLen := by
    have := Nat.le_mul_of_pos_right xs.length t.sz_pos
    simp only [maxLen]
    omega
  have key : ∀ c0 : Array Value, c0.size = xs.length * t.sz → Instr.fill (fun i => some (i * t.sz, t.sz)) c0 (List.map (fun x => (x.fst, a.eval x.snd)) ps.toList) = some (cellsL t xs).toArray := by
    intro c0 hc0
    have := fill_elems (T := C.T) hS ps.toList 0 xs [] c0 hxs rfl (by simp [cellsL]) (by rw [hc0, Nat.zero_add])
    simpa using this
  have hrun : (Instr.buildSlice n xs.length (ps.map fun (i, x) => (i, a.eval x))).run C.P w = .ok (.slice (some ⟨w.heap.size, 0, none⟩) xs.length xs.length) (w.alloc (.cells (cellsL t xs).toArray e)) := by
    have h24 : ¬ xs.length * t.sz > 2 ^ 24 := by omega
    by_cases h0 : xs.length * t.sz = 0
    · simp [Instr.buildSlice, run_underlying hu, run_sizeOf hs, h0, Result.andThen, newRow]
      rw [key _ (by simp [h0])]
      simp
    · simp only [gt_iff_lt, Nat.not_lt] at h24
      simp [Instr.buildSlice, run_underlying hu, run_sizeOf hs, h0, Result.andThen, zeroValue, typeInfo, hi, hz, newRow, Nat.not_lt.2 h24]
      rw [key _ (by simp)]
      simp
  refine good_new hC hM hd (w' := w.alloc (.cells (cellsL t xs).toArray e)) (V := .slice (some ⟨w.heap.size, 0, none⟩) xs.length xs.length) ⟨rfl, rfl, rfl, by simp, fun k hk _ => heap_alloc_old w _ k hk⟩ ?_ ?_ ?_
  · have := World.ownsRow_lit (base := 0) (e := e) (size := t.sz) w (cellsL t xs).toArray xs.length (Nat.zero_le _) hmax (by simp [cellsL_length])
    unfold OwnV
    simpa using this
  · intro g' hg'
    have : w.heap.size = g' := by simpa [Value.ownBlock] using hg'
    omega
  · simp [execOp, ho, hrun, Result.andThen]
/-! ### texts and code points -/
theorem runesFrom_all (s : ByteArray) : ∀ (b i : Nat) (acc : Array Value), (∀ v ∈ acc.toList, ∃ n, v = .int .i32 n) → ∀ v ∈ (Conv.runesFrom s b i acc).toList, ∃ n, v = .int .i32 n
  | 0, _, acc, h => by simpa [Conv.runesFrom] using h
  | b + 1, i, acc, h => by
    unfold Conv.runesFrom
    split
    · exact runesFrom_all s b _ _ (by
        intro v hv
        rw [Array.toList_push] at hv
        rcases List.mem_append.1 hv with hv | hv
        · exact h v hv
        · exact ⟨_, List.mem_singleton.1 hv⟩)
    · exact h
theorem cells_intsOf : ∀ (l : List Value), (∀ v ∈ l, ∃ n, v = .int .i32 n) → cellsL (.int .i32) (intsOf l) = l
  | [], _ => rfl
  | v :: l, h => by
    obtain ⟨n, rfl⟩ := h v (by simp)
    show Value.int .i32 n :: cellsL (.int .i32) (intsOf l) = _
    rw [cells_intsOf l (fun v hv => h v (by simp [hv]))]
theorem cells_runes (s : ByteArray) : cellsL (.int .i32) (runesI s) = (Conv.runesFrom s s.size 0 #[]).toList := cells_intsOf _ (runesFrom_all s _ _ _ (by simp))
theorem runes_length (s : ByteArray) : (runesI s).length = (Conv.runesFrom s s.size 0 #[]).size := by
  have := congrArg List.length (cells_runes s)
  rw [cellsL_length] at this
  simpa [Ty.sz] using this
theorem good_runes (hC : CtxOk C) (hM : Mem C rw ε w) {src dst : TypeId} {x : Operand} (ho : o.op = .convert src dst x) {s : ByteArray} (hx : a.eval x = .string s) (hs : C.T.ty src = some .str) {e : TypeId} (hd : C.T.sl dst = some (.int .i32, e)) (hl : (runesI s).length ≤ 70368744177664) {d : Nat} (hn : rw d = none) :
    Good C rw ε a w o (.sl d) [(d, some ⟨.int .i32, e, true, runesI s⟩)] := by
  have hsu : C.P.underlying src = some .string := (hC.tab.ty _ _ hs).2
  obtain ⟨hdu, hse, he⟩ := hC.tab.sl _ _ _ hd
  have he : C.P.underlying e = some (.int .i32) := he
  rw [runes_length] at hl
  have hr := run_runes_of_string (P := C.P) w src dst e s hsu hdu he hl
  have hcm : grownCap w (Conv.runesFrom s s.size 0 #[]).size 0 e ≤ maxLen := grownCap_le_maxLen w _ 0 e (by simp only [maxLen]; omega)
  have hcg := grownCap_ge w (Conv.runesFrom s s.size 0 #[]).size 0 e
  generalize grownCap w (Conv.runesFrom s s.size 0 #[]).size 0 e = cap at hr hcm hcg
  refine good_new hC hM hn (w' := w.drew.alloc (.cells (Conv.runesFrom s s.size 0 #[] ++ Array.replicate (cap - (Conv.runesFrom s s.size 0 #[]).size) (.int .i32 0)) e)) (V := .slice (some ⟨w.heap.size, 0, none⟩) (Conv.runesFrom s s.size 0 #[]).size cap) ⟨rfl, rfl, rfl, by simp, fun k hk _ => heap_alloc_old w.drew _ k hk⟩ ?_ ?_ ?_
  · refine ⟨by rw [cellsL_length], .inr ⟨w.heap.size, cap, _, by rw [runes_length], Nat.zero_le _, heap_alloc_new _ _, by rw [runes_length]; exact hcg, hcm, ?_, ?_⟩⟩
    · simp [Ty.sz]; omega
    · rw [cells_runes, runes_length]
      simp [Ty.sz]
  · intro g' hg'
    have : w.heap.size = g' := by simpa [Value.ownBlock] using hg'
    omega
  · simp [execOp, ho, hx, hr, Result.andThen]
end
end Go.Ev

/- Each operation that the evaluator knows does what it says: appends, lengths, texts of code points. -/
namespace Go.Ev
open Go.RowKit
section
variable {C : Ctx} {rw : RW} {ε : Env} {w : World} {g : Nat → Option AV} {a : Act} {o : Oper} {R : Type}
theorem own_takeV {t : Ty} {e : TypeId} {xs : List t.den} {A : Option Addr} {n c m : Nat} (h : OwnV w t e xs (.slice A n c)) (hm : m ≤ xs.length) : OwnV w t e (xs.take m) (.slice A m c) := by
  have hl : (xs.take m).length = m := by rw [List.length_take]; exact Nat.min_eq_left hm
  have hle := Nat.mul_le_mul_right t.sz hm
  unfold OwnV World.ownsRow
  rw [hl]
  refine ⟨by rw [cellsL_length, hl], ?_⟩
  rcases h.2 with ⟨he, h0⟩ | ⟨g, cap, cur, he, hb, hh, hnc, hcm, hcs, ht⟩
  · injection he with ha _ hc
    subst ha; subst hc
    obtain rfl : m = 0 := by omega
    exact .inl ⟨rfl, rfl⟩
  · injection he with ha _ hc
    subst ha; subst hc
    refine .inr ⟨g, c, cur, rfl, hb, hh, by omega, hcm, hcs, ?_⟩
    rw [cellsL_take, ← ht, List.take_take, Nat.min_eq_left hle]
theorem run_append_none {P : Program} {t ty e : TypeId} {i : TypeInfo} {size : Nat} (ht : P.underlying t = some (.slice e)) (hi : P.info? e = some i) (v : Value) (n c : Nat) (XS : List Value) (hown : w.ownsRow 0 e size v n XS) :
    (Builtin.append_ #[t, t] ty #[v, .slice none 0 c]).run P w = .ok v w := by
  rcases hown.2 with ⟨rfl, rfl⟩ | ⟨g, cap, cur, rfl, _, _, hnc, _⟩
  · simp [Builtin.append_, run_underlying ht, sizeOf, typeInfo, hi, Builtin.lenOf, Builtin.firstCells]
  · simp [Builtin.append_, run_underlying ht, sizeOf, typeInfo, hi, Builtin.lenOf, Builtin.firstCells, hnc, storeCells]
theorem run_app (hC : CtxOk C) {t ty : TypeId} {u : Ty} {e : TypeId} (ht : C.T.sl t = some (u, e)) {xs ys : List u.den} {V X : Value} (ho : OwnV w u e xs V) (hr : ReadV w u ys X) (hb : xs.length + ys.length < 1000000000000) :
    ∃ V' w', (Builtin.append_ #[t, t] ty #[V, X]).run C.P w = .ok V' w' ∧ OwnV w' u e (xs ++ ys) V' ∧ Pres (fun k => some k = V.ownBlock) w w' ∧ ∀ g, V'.ownBlock = some g → some g = V.ownBlock ∨ w.heap.size ≤ g := by
  obtain ⟨hu, hs, _⟩ := hC.tab.sl _ _ _ ht
  obtain ⟨i, hi, hz, hsz, hby⟩ := info_of hs
  obtain ⟨A, c, rfl, hc, hcell⟩ := hr
  cases A with
  | none =>
    have hy : ys = [] := by
      cases ys with
      | nil => rfl
      | cons y ys =>
        obtain ⟨u0, hu0⟩ : ∃ u0, (cellsL u (y :: ys))[0]? = some u0 := ⟨_, List.getElem?_eq_getElem (by rw [cellsL_length]; exact Nat.mul_pos (by simp) u.sz_pos)⟩
        obtain ⟨ad, hA, _⟩ := hcell 0 u0 hu0
        cases hA
    subst hy
    refine ⟨V, w, run_append_none hu hi V xs.length c _ ho, by rw [List.append_nil]; exact ho, Pres.refl _ _, fun g hg => .inl hg.symm⟩
  | some ad =>
    obtain ⟨v', w', hrun, hown, hg, _, hat⟩ := run_append_own_at (P := C.P) w 0 t ty e i (u.val u.zero) u.sz i.bytes hu hi hz hsz rfl (by rw [u.val_cells]; simp [u.cells_length]) u.sz_pos V xs.length _ ho ad ys.length c (cellsL u ys) (cellsL_length _ _)
      (fun j q hq => by
        obtain ⟨ad', hA, h⟩ := hcell j q hq
        cases hA
        exact h) (cellsL_one _ _) (by simp only [maxLen]; omega) (by
          have := Nat.mul_le_mul (Nat.le_of_lt hb) hby
          omega) (Nat.zero_le _)
    refine ⟨v', w', hrun, ?_, Pres.grown hg, fun g hgg => ?_⟩
    · unfold OwnV
      rw [List.length_append, cellsL_append]
      exact hown
    · rcases hat with hat | hat
      · exact .inl (by rw [← hat, hgg])
      · rw [hat] at hgg
        cases hgg
        exact .inr (Nat.le_refl _)
theorem bytesI_cells (s : ByteArray) : cellsL (.int .u8) (bytesI s) = Lib.strCells s := by
  unfold cellsL bytesI Lib.strCells
  rw [List.map_map]
  induction s.data.toList with
  | nil => rfl
  | cons b l ih => rw [List.map_cons, List.map_cons, List.flatten_cons, ih]; rfl
theorem bytesI_length (s : ByteArray) : (bytesI s).length = s.size := by
  unfold bytesI
  rw [List.length_map]
  rfl
theorem run_apps (hC : CtxOk C) {t t' ty : TypeId} {e : TypeId} (ht : C.T.sl t = some (.int .u8, e)) (ht' : C.T.ty t' = some .str) {xs : List Int} {s : ByteArray} {V : Value} (ho : OwnV w (.int .u8) e xs V) (hb : xs.length + s.size < 1000000000000) :
    ∃ V' w', (Builtin.append_ #[t, t'] ty #[V, .string s]).run C.P w = .ok V' w' ∧ OwnV w' (.int .u8) e (xs ++ bytesI s) V' ∧ Pres (fun k => some k = V.ownBlock) w w' ∧ ∀ g, V'.ownBlock = some g → some g = V.ownBlock ∨ w.heap.size ≤ g := by
  obtain ⟨hu, hs, _⟩ := hC.tab.sl _ _ _ ht
  have hu' : C.P.underlying t' = some .string := (hC.tab.ty _ _ ht').2
  obtain ⟨i, hi, hz, hsz, hby⟩ := info_of hs
  have hz : i.zero = some (.int .u8 0) := hz
  have hsz : i.size = 1 := hsz
  have hxl : xs.length = (cellsL (.int .u8) xs).length := by rw [cellsL_length]; exact (Nat.mul_one _).symm
  have hcl := Lib.strCells_length s
  have hlen : (cellsL (.int .u8) (xs ++ bytesI s)).length = (xs ++ bytesI s).length * 1 := cellsL_length (.int .u8) _
  have hn : (xs ++ bytesI s).length = xs.length + s.size := by rw [List.length_append, bytesI_length]
  have hbytes : (xs.length + s.size) * i.bytes ≤ 140737488355328 := by
    have := Nat.mul_le_mul (Nat.le_of_lt hb) hby
    omega
  have grown : ∀ (old : Nat) (arr : Array Value), arr.toList = cellsL (.int .u8) xs ++ Lib.strCells s ++ (Builtin.zeroCells (Value.int .u8 0).cells (grownCap w (xs.length + s.size) old e - (xs.length + s.size))).toList →
      OwnV (w.drew.alloc (.cells arr e)) (.int .u8) e (xs ++ bytesI s) (.slice (some ⟨w.heap.size, 0, none⟩) (xs.length + s.size) (grownCap w (xs.length + s.size) old e)) := by
    intro old arr harr
    have hge := grownCap_ge w (xs.length + s.size) old e
    have hcm : grownCap w (xs.length + s.size) old e ≤ maxLen := grownCap_le_maxLen w (xs.length + s.size) old e (by simp only [maxLen]; omega)
    refine ⟨hlen, .inr ⟨w.heap.size, _, _, by rw [hn], Nat.zero_le _, heap_alloc_new w.drew _, by rw [hn]; exact hge, hcm, ?_, ?_⟩⟩
    · have hz1 : (Value.int IntKind.u8 0).cells.size = 1 := rfl
      have hz2 := size_zeroCells (Value.int IntKind.u8 0).cells (grownCap w (xs.length + s.size) old e - (xs.length + s.size))
      rw [hz1] at hz2
      rw [← Array.length_toList, harr, List.length_append, List.length_append, hcl, ← hxl]
      show _ + (Builtin.zeroCells _ _).size = _ * 1
      omega
    · rw [harr, hn, cellsL_append, bytesI_cells]
      exact List.take_left' (by rw [List.length_append, hcl, ← hxl]; exact (Nat.mul_one _).symm)
  have pres : ∀ (arr : Array Value) (may : Nat → Prop), Pres may w (w.drew.alloc (.cells arr e)) := fun arr may => ⟨rfl, rfl, rfl, by simp, fun k hk _ => heap_alloc_old w.drew _ k hk⟩
  rcases ho.2 with ⟨rfl, h0⟩ | ⟨g, cap, cur, rfl, hbg, hg, hnc, hcm, hcs, htake⟩
  · have hx : xs = [] := List.eq_nil_of_length_eq_zero h0
    subst hx
    by_cases hm : s.size = 0
    · have hb0 : bytesI s = [] := List.eq_nil_of_length_eq_zero (by rw [bytesI_length]; exact hm)
      have hf := Lib.run_firstCells_string (P := C.P) w 1 s
      rw [hm] at hf
      refine ⟨.slice none 0 0, w, ?_, by rw [hb0]; exact World.ownsRow_nil w 0 e 1, Pres.refl _ _, fun g hg => by cases hg⟩
      simp [Builtin.append_, run_underlying hu, run_underlying hu', sizeOf, typeInfo, hi, hsz, Builtin.lenOf, hm, hf]
    · have hr := run_append_nil_string (P := C.P) w t t' ty e i (.int .u8 0) hu hu' hi hz s (by omega) (by omega) (by simp only [List.length_nil, Nat.zero_add] at hbytes; omega)
      have hgr := grown 0 (s.data.map (fun b => Value.int .u8 b.toNat) ++ Builtin.zeroCells (Value.int .u8 0).cells (grownCap w s.size 0 e - s.size)) (by
        rw [Array.toList_append, Array.toList_map]
        simp only [List.length_nil, Nat.zero_add]
        rfl)
      simp only [List.length_nil, Nat.zero_add] at hgr
      exact ⟨_, _, hr, hgr, pres _ _, fun g hg => by cases hg; exact .inr (Nat.le_refl _)⟩
  · have hcs' : cur.size = cap := by
      have : cur.size = cap * 1 := hcs
      omega
    by_cases hroom : xs.length + s.size ≤ cap
    · have hr := Lib.run_append_room_string (P := C.P) w t t' ty e i hu hu' hi hsz g xs.length cap cur hg s hroom (by omega)
      have ht1 : cur.toList.take xs.length = cellsL (.int .u8) xs := by
        have : cur.toList.take (xs.length * 1) = cellsL (.int .u8) xs := htake
        rwa [Nat.mul_one] at this
      refine ⟨_, _, hr, ⟨hlen, .inr ⟨g, cap, _, by rw [hn], hbg, setRow_heap w g cur _ e _ hg, by rw [hn]; exact hroom, hcm, ?_, ?_⟩⟩, ⟨rfl, rfl, rfl, by simp, fun k _ hk => setRow_other w g k _ (fun e => hk (by simp [Value.ownBlock, e]))⟩, fun g' hg' => .inl ?_⟩
      · simp only [List.size_toArray, List.length_append, List.length_take, List.length_drop, Array.length_toList, hcl]
        show _ = _ * 1
        omega
      · rw [hn, cellsL_append, bytesI_cells, ht1]
        exact List.take_left' (by rw [List.length_append, hcl, ← hxl]; exact (Nat.mul_one _).symm)
      · rw [← hg']
        rfl
    · have holds : ∀ j u, (cellsL (.int .u8) xs)[j]? = some u → w.cell? ((⟨g, 0, none⟩ : Addr).add j) = some u := World.ownsRow.cells ho (g := g) rfl
      have hr := Lib.run_append_grow_string (P := C.P) w t t' ty e i (.int .u8 0) hu hu' hi hz ⟨g, 0, none⟩ xs.length cap (cellsL (.int .u8) xs) (by rw [hsz, Nat.mul_one]; exact hxl.symm) holds s (by omega) (by omega) (growslice_fits (by omega) hbytes)
      refine ⟨_, _, hr, grown cap _ ?_, pres _ _, fun g hg => by cases hg; exact .inr (Nat.le_refl _)⟩
      simp
theorem append_types {P : Program} {t t' ty e e' : TypeId} {i : TypeInfo} (ht : P.underlying t = some (.slice e)) (ht' : P.underlying t' = some (.slice e')) (hi : P.info? e = some i) (args : Array Value) (w : World) : (Builtin.append_ #[t, t'] ty args).run P w = (Builtin.append_ #[t, t] ty args).run P w := by
  unfold Builtin.append_
  cases h0 : args[0]? with
  | none => simp
  | some s =>
    cases h1 : args[1]? with
    | none => simp
    | some x => cases s <;> simp [run_underlying ht, run_underlying ht', sizeOf, typeInfo, hi, Result.andThen]
theorem some_info {α β : Type} {f : α → β} {o : Option α} {x : β} (h : o.map f = some x) : ∃ i, o = some i := by
  cases o with
  | none => cases h
  | some i => exact ⟨i, rfl⟩
theorem appTy_run (hC : CtxOk C) {t t' ty e : TypeId} (ht : C.P.underlying t = some (.slice e)) (hi : ∃ i, C.P.info? e = some i) (h : appTy C.T t t' = true) (args : Array Value) (w : World) : (Builtin.append_ #[t, t'] ty args).run C.P w = (Builtin.append_ #[t, t] ty args).run C.P w := by
  obtain ⟨i, hi⟩ := hi
  unfold appTy at h
  rw [Bool.or_eq_true, Bool.or_eq_true] at h
  rcases h with (h | h) | h
  · rw [Nat.eq_of_beq_eq_true h]
  · obtain ⟨⟨u, e'⟩, he⟩ := Option.isSome_iff_exists.1 h
    exact append_types ht (hC.tab.sl _ _ _ he).1 hi args w
  · obtain ⟨⟨u, e'⟩, he⟩ := Option.isSome_iff_exists.1 h
    exact append_types ht (hC.tab.hsl _ _ _ he).1 hi args w
theorem exec_append {t t' : TypeId} {x y : Operand} (ho : o.op = .call { callee := .builtin .append, args := #[x, y], argTypes := #[t, t'] }) {V X V' : Value} {w' : World} (hx : a.eval x = V) (hy : a.eval y = X) (hr : (Builtin.append_ #[t, t'] o.type #[V, X]).run C.P w = .ok V' w') :
    (execOp a.eval o).run C.P w = .ok (.value V') w' := by
  simp [execOp, ho, resolve, invoke, builtin, hx, hy, hr, Result.andThen]
theorem good_append (hC : CtxOk C) (hM : Mem C rw ε w) {t t' : TypeId} {x y : Operand} (ho : o.op = .call { callee := .builtin .append, args := #[x, y], argTypes := #[t, t'] }) {u : Ty} {e : TypeId} (ht : C.T.sl t = some (u, e)) {ys : List u.den} (hrun : ∀ (xs : List u.den) (V : Value), OwnV w u e xs V → xs.length + ys.length < 1000000000000 → ∃ V' w', (Builtin.append_ #[t, t'] o.type #[V, a.eval y]).run C.P w = .ok V' w' ∧ OwnV w' u e (xs ++ ys) V' ∧ Pres (fun k => some k = V.ownBlock) w w' ∧ ∀ g, V'.ownBlock = some g → some g = V.ownBlock ∨ w.heap.size ≤ g) {d : Nat} (hd : rw d = none) {av : AV} (hx : VRel rw ε av (a.eval x)) :
    (∀ r (z : Row) (_ : av = .sl r) (_ : row rw r = some z) (_ : z.own = true) (_ : z.e = e) (xs : List u.den) (_ : ∃ e' : z.t = u, e' ▸ z.xs = xs), xs.length + ys.length < 1000000000000 → Good C rw ε a w o (.sl d) [(r, none), (d, some ⟨u, e, true, xs ++ ys⟩)]) ∧
    (∀ r p hi (z : Row) (_ : av = .cut r p 0 hi) (_ : row rw r = some z) (_ : z.own = true) (_ : z.e = e) (xs : List u.den) (_ : ∃ e' : z.t = u, e' ▸ z.xs = xs), hi + (ys.length : Int) < 1000000000000 → Good C rw ε a w o (.sl d) [(r, none), (d, some ⟨u, e, true, xs.take hi.toNat ++ ys⟩)]) ∧
    (∀ t0 e0, av = .nilS t0 e0 → ys.length < 1000000000000 → Good C rw ε a w o (.sl d) [(d, some ⟨u, e, true, ys⟩)]) := by
  obtain ⟨_, hs, _⟩ := hC.tab.sl _ _ _ ht
  refine ⟨?_, ?_, ?_⟩
  · rintro r ⟨zt, ze, zo, zx⟩ rfl hz hzo hze xs ⟨e', hxs⟩ hb
    have hze : ze = e := hze
    have e' : zt = u := e'
    subst hze; subst e'
    have hxs : zx = xs := hxs
    subst hxs
    obtain ⟨_, hV⟩ := hx
    obtain ⟨ho1, _⟩ := (hM.ok r _ hz).own hzo
    obtain ⟨V', w', hrun, hown, hp, hbl⟩ := hrun _ _ ho1 hb
    exact good_over hC hM hd hz hzo hp hown hbl (exec_append ho hV rfl hrun)
  · rintro r p hi ⟨zt, ze, zo, zx⟩ rfl hz hzo hze xs ⟨e', hxs⟩ hb
    have hze : ze = e := hze
    have e' : zt = u := e'
    subst hze; subst e'
    have hxs : zx = xs := hxs
    subst hxs
    obtain ⟨_, A, m, c, A', c', hv, hmc, hV, _, h0h, hhm, hc', _, hz0, _⟩ := hx
    obtain ⟨rfl, rfl⟩ := hz0 rfl
    obtain ⟨ho1, _⟩ := (hM.ok r _ hz).own hzo
    rw [hv] at ho1
    have hm : m = zx.length := by
      have h1 := (hM.ok r _ hz).read
      rw [hv] at h1
      exact (ReadV.at_ h1).1
    have ho2 := own_takeV (m := (hi - 0).toNat) ho1 (show (hi - 0).toNat ≤ zx.length by omega)
    rw [← hV, show (hi - 0).toNat = hi.toNat by omega] at ho2
    obtain ⟨V', w', hrun, hown, hp, hbl⟩ := hrun _ _ ho2 (by rw [List.length_take]; show min hi.toNat zx.length + ys.length < _; omega)
    have hbk : (a.eval x).ownBlock = (ε.sv r).ownBlock := by rw [hV, hv]; cases A' <;> rfl
    rw [hbk] at hp hbl
    exact good_over hC hM hd hz hzo hp hown hbl (exec_append ho rfl rfl hrun)
  · rintro t0 e0 rfl hb
    have hV : a.eval x = .slice none 0 0 := hx
    have ho1 : OwnV w u e [] (.slice none 0 0) := World.ownsRow_nil w 0 e u.sz
    obtain ⟨V', w', hrun, hown, hp, hbl⟩ := hrun _ _ ho1 (by simpa using hb)
    refine good_new hC hM hd ?_ hown (fun g hg => (hbl g hg).resolve_left (fun h => by cases h)) (exec_append ho hV rfl hrun)
    exact hp.mono (fun k _ hk => by cases hk)
theorem lenOf_eq (hM : Mem C rw ε w) {av : AV} {V : Value} (hv : VRel rw ε av V) {n : Int} (h : lenOf rw av = some n) : ∃ A c m, V = .slice A m c ∧ n = (m : Int) := by
  unfold lenOf at h
  split at h
  · rename_i r
    split at h
    · rename_i x hx
      cases h
      obtain ⟨_, rfl⟩ := hv
      obtain ⟨A, c, hv, _⟩ := row_slice hM hx
      exact ⟨A, c, _, hv, rfl⟩
    · cases h
  · cases h
    obtain ⟨_, A, m, c, A', c', hv, hmc, hV, _, _, _, hc', _, _⟩ := hv
    exact ⟨A', c', _, hV, by omega⟩
  · cases h
    exact ⟨none, 0, 0, hv, rfl⟩
  · cases h
theorem good_len (hC : CtxOk C) (hM : Mem C rw ε w) {t : TypeId} {x : Operand} (ho : o.op = .call { callee := .builtin .len, args := #[x], argTypes := #[t] }) {p : Ty × TypeId} (ht : C.T.sl t = some p) {av : AV} (hx : VRel rw ε av (a.eval x)) {n : Int} (h : lenOf rw av = some n) :
    Good C rw ε a w o (.v (.int .i64) n) [] := by
  obtain ⟨hu, _⟩ := hC.tab.sl _ p.1 p.2 ht
  obtain ⟨A, c, m, hV, rfl⟩ := lenOf_eq hM hx h
  have hr := run_len_slice (P := C.P) w t o.type A m c (by rw [elem_eq hu]; exact hu)
  refine good_pure hM (V := .int .i64 m) ?_ rfl
  simp [execOp, ho, resolve, invoke, builtin, hV, hr, Result.andThen, goInt]
theorem good_slen (hC : CtxOk C) (hM : Mem C rw ε w) {t : TypeId} {x : Operand} (ho : o.op = .call { callee := .builtin .len, args := #[x], argTypes := #[t] }) (ht : C.T.ty t = some .str) {s : ByteArray} (hx : a.eval x = .string s) : Good C rw ε a w o (.v (.int .i64) (s.size : Int)) [] := by
  have hu : C.P.underlying t = some .string := (hC.tab.ty _ _ ht).2
  have hr := run_len_string (P := C.P) w t o.type s hu
  refine good_pure hM (V := .int .i64 s.size) ?_ rfl
  simp [execOp, ho, resolve, invoke, builtin, hx, hr, Result.andThen, goInt]
theorem good_ofRunes (hC : CtxOk C) (hM : Mem C rw ε w) {src dst : TypeId} {x : Operand} (ho : o.op = .convert src dst x) {e : TypeId} (hs : C.T.sl src = some (.int .i32, e)) (hd : C.T.ty dst = some .str) {xs : List Int} (hx : ReadV w (.int .i32) xs (a.eval x)) : Good C rw ε a w o (.v .str (strOfRunes xs)) [] := by
  obtain ⟨hu, hse, he⟩ := hC.tab.sl _ _ _ hs
  have he : C.P.underlying e = some (.int .i32) := he
  have hdu : C.P.underlying dst = some .string := (hC.tab.ty _ _ hd).2
  obtain ⟨A, c, hV, hc, hcell⟩ := hx
  refine good_pure hM (V := .string (strOfRunes xs)) ?_ rfl
  cases A with
  | none =>
    have hy : xs = [] := by
      cases xs with
      | nil => rfl
      | cons y ys =>
        obtain ⟨ad, hA, _⟩ := hcell 0 (.int .i32 y) rfl
        cases hA
    subst hy
    have hr := run_convert_runes_nil (P := C.P) w src dst e ([] : List Int).length c hu he hdu
    simp only [List.length_nil] at hr hV
    simp [execOp, ho, hV, hr, Result.andThen]
    rfl
  | some ad =>
    have hr := run_convert_runes (P := C.P) w src dst e ad xs.length c xs (Nat.le_refl _) hu he hdu (fun j hj => by
      have hq : (cellsL (.int .i32) xs)[j]? = some (.int .i32 (xs.getD j 0)) := by
        have : cellsL (.int .i32) xs = xs.map (Value.int .i32) := by
          clear hj hcell hV hc
          induction xs with
          | nil => rfl
          | cons y ys ih => rw [cellsL_cons, ih]; rfl
        rw [this]
        simp [List.getElem?_eq_getElem hj]
      obtain ⟨ad', hA, h⟩ := hcell j _ hq
      cases hA
      exact h)
    rw [List.take_length] at hr
    simp [execOp, ho, hV, hr, Result.andThen]
    rfl
theorem good_ofBytes (hC : CtxOk C) (hM : Mem C rw ε w) {src dst : TypeId} {x : Operand} (ho : o.op = .convert src dst x) {e : TypeId} (hs : C.T.sl src = some (.int .u8, e)) (hd : C.T.ty dst = some .str) {xs : List Int} (hx : ReadV w (.int .u8) xs (a.eval x)) : Good C rw ε a w o (.v .str (strOfBytes xs)) [] := by
  obtain ⟨hu, hse, he⟩ := hC.tab.sl _ _ _ hs
  have he : C.P.underlying e = some (.int .u8) := he
  have hdu : C.P.underlying dst = some .string := (hC.tab.ty _ _ hd).2
  obtain ⟨A, c, hV, hc, hcell⟩ := hx
  have hcl : cellsL (.int .u8) xs = xs.map (Value.int .u8) := by
    clear hcell hV hc
    induction xs with
    | nil => rfl
    | cons y ys ih => rw [cellsL_cons, ih]; rfl
  have hfold : ∀ (l : List Int) (s : ByteArray), l.foldl (fun r n => r.push (UInt8.ofNat n.toNat)) s = ⟨s.data ++ (l.map fun n => UInt8.ofNat n.toNat).toArray⟩ := by
    intro l
    induction l with
    | nil => intro s; simp
    | cons y ys ih =>
      intro s
      rw [List.foldl_cons, ih]
      apply ByteArray.ext
      simp [ByteArray.push]
  refine good_pure hM (V := .string (strOfBytes xs)) ?_ rfl
  cases A with
  | none =>
    have hy : xs = [] := by
      cases xs with
      | nil => rfl
      | cons y ys =>
        obtain ⟨ad, hA, _⟩ := hcell 0 (.int .u8 y) rfl
        cases hA
    subst hy
    simp [execOp, ho, hV, run_convert_bytes_string w src dst e none _ c hu he hdu, Conv.bytesToString, Result.andThen]
    rfl
  | some ad =>
    have hl := run_loadCells_list (P := C.P) w ad (cellsL (.int .u8) xs) (fun j q hq => by
      obtain ⟨ad', hA, h⟩ := hcell j q hq
      cases hA
      exact h)
    have hlen : (cellsL (.int .u8) xs).length = xs.length := by rw [hcl, List.length_map]
    rw [hlen, hcl] at hl
    have hr := run_bytesToString (P := C.P) w ad xs.length c xs hl
    simp [execOp, ho, hV, run_convert_bytes_string w src dst e (some ad) _ c hu he hdu, hr, Result.andThen]
    rw [hfold]
    unfold strOfBytes
    congr 1
    simp
theorem good_mark (hC : CtxOk C) (hM : Mem C rw ε w) {src : TypeId} {x : Operand} (ho : o.op = .convert src src x) {e e' : TypeId} (hs : C.T.sl src = some (.int .u8, e)) {r : Nat} {y : Int} {xs : List Int} (hr : row rw r = some ⟨.int .u8, e', true, y :: xs⟩) (hx : a.eval x = ε.sv r) :
    Good C rw ε a w o (.sl r) [(r, some ⟨.int .u8, e', false, y :: xs⟩)] := by
  obtain ⟨hu, hse, he⟩ := hC.tab.sl _ _ _ hs
  have he : C.P.underlying e = some (.int .u8) := he
  obtain ⟨hown, hmine⟩ := (hM.ok r _ hr).own rfl
  have hown : OwnV w (.int .u8) e' (y :: xs) (ε.sv r) := hown
  rcases id hown.2 with ⟨_, h0⟩ | ⟨g, cap, cur, hV, hbg, hg, hnc, hcm, hcs, htake⟩
  · simp at h0
  · have hshape : w.shape? g = some (e', cur.size) := by simp [World.shape?, hg]
    have hrun : (convert src src (ε.sv r)).run C.P w = .ok (ε.sv r) (w.freeze ⟨g, cur.size, none⟩ 1) := by
      rw [hV]
      simp [convert, run_underlying hu, run_underlying he, markStringish, hshape, Result.andThen]
    have hgn : (w.freeze ⟨g, cur.size, none⟩ 1).heap[g]? = some (.cells cur e' (cur.size, cur.size + 1)) := by
      have hlt : g < w.heap.size := (Array.getElem?_eq_some_iff.1 hg).1
      simp [World.freeze, Array.getElem?_modify, hg]
    have hold : ∀ k, k ≠ g → (w.freeze ⟨g, cur.size, none⟩ 1).heap[k]? = w.heap[k]? := by
      intro k hk
      simp [World.freeze, Array.getElem?_modify, Ne.symm hk]
    have hcell : ∀ j, (w.freeze ⟨g, cur.size, none⟩ 1).cell? ⟨g, j, none⟩ = w.cell? ⟨g, j, none⟩ := by
      intro j
      simp [World.cell?, hgn, hg]
    have hb : (ε.sv r).ownBlock = some g := by rw [hV]; rfl
    have hp : Pres (fun k => some k = (ε.sv r).ownBlock) w (w.freeze ⟨g, cur.size, none⟩ 1) := by
      refine ⟨rfl, rfl, rfl, by simp [World.freeze], fun k hk hn => hold k ?_⟩
      rintro rfl
      exact hn hb.symm
    have hrd : ReadV (w.freeze ⟨g, cur.size, none⟩ 1) (.int .u8) (y :: xs) (ε.sv r) := by
      obtain ⟨A, c, hA, hc, hcells⟩ := own_read hown
      refine ⟨A, c, hA, hc, fun j u hj => ?_⟩
      obtain ⟨ad, hAd, hcl⟩ := hcells j u hj
      refine ⟨ad, hAd, ?_⟩
      rw [hV] at hA
      injection hA with hA1 _ _
      rw [hAd] at hA1
      cases hA1
      rw [Addr.add_lit] at hcl ⊢
      rw [hcell]
      exact hcl
    intro next Q h
    have hexec : (execOp a.eval o).run C.P w = .ok (.value (ε.sv r)) (w.freeze ⟨g, cur.size, none⟩ 1) := by
      simp [execOp, ho, hx, hrun, Result.andThen]
    refine wp_value hexec (h _ ε _ ⟨?_, rfl⟩ ext_set ?_)
    · show (if r = r then _ else _) ≠ none
      simp
    · rw [show updF rw [(r, some ⟨.int .u8, e', false, y :: xs⟩)] = (fun m => if m = r then some (some ⟨.int .u8, e', false, y :: xs⟩) else rw m) from rfl]
      refine mem_step hC hM (N := fun n => n = r) hp (fun k _ h => hmine k h.symm) (fun n x hn hN => ?_) (fun n x hn hN => ?_) (fun r _ r' _ _ _ h1 h2 hne => absurd (h1.trans h2.symm) hne)
      · have hN' : n ≠ r := hN
        rw [row_put_ne _ _ hN'] at hn
        exact ⟨hn, rfl, rfl, fun hx g hg hg' => hM.sep r _ n x hr rfl hn (Ne.symm hN') hx g hg'.symm hg⟩
      · have hN' : n = r := hN
        subst hN'
        rw [row_put_same] at hn
        cases hn
        exact ⟨⟨(hM.ok n _ hr).ty, fun h => (by cases h), hrd⟩, fun g hg => .inl hg.symm⟩
theorem good_toBytes (hC : CtxOk C) (hM : Mem C rw ε w) {src dst : TypeId} {x : Operand} (ho : o.op = .convert src dst x) {s : ByteArray} (hx : a.eval x = .string s) (hs : C.T.ty src = some .str) {e : TypeId} (hd : C.T.sl dst = some (.int .u8, e)) {d : Nat} (hn : rw d = none) :
    Good C rw ε a w o (.sl d) [(d, some ⟨.int .u8, e, false, bytesI s⟩)] := by
  obtain ⟨hu, hse, he⟩ := hC.tab.sl _ _ _ hd
  have he : C.P.underlying e = some (.int .u8) := he
  have hsu : C.P.underlying src = some .string := (hC.tab.ty _ _ hs).2
  have hr := Lib.run_convert_string_bytes (P := C.P) w src dst e s hsu hu he
  have hV : ∀ g, (Value.slice (some ⟨w.heap.size, 0, none⟩) s.size (grownCap w s.size 0 e)).ownBlock = some g → w.heap.size ≤ g := by
    intro g hg
    cases hg
    exact Nat.le_refl _
  have hrd : ReadV (Lib.bytesWorld w e s) (.int .u8) (bytesI s) (.slice (some ⟨w.heap.size, 0, none⟩) s.size (grownCap w s.size 0 e)) := by
    refine ⟨_, _, by rw [bytesI_length], by rw [bytesI_length]; exact grownCap_ge w s.size 0 e, fun j u hj => ⟨_, rfl, ?_⟩⟩
    rw [bytesI_cells] at hj
    have hj' : j < s.size := by
      have := (List.getElem?_eq_some_iff.1 hj).1
      rwa [Lib.strCells_length] at this
    rw [Addr.add_lit, Nat.zero_add, Lib.bytesWorld_cell w e s j hj']
    rw [← hj]
    unfold Lib.strCells
    have hj2 : j < s.data.toList.length := by rw [Array.length_toList]; exact hj'
    rw [List.getElem?_map, List.getElem?_eq_getElem hj2, List.getD_eq_getElem?_getD, List.getElem?_eq_getElem hj2]
    rfl
  have hp : Pres (fun _ => False) w (Lib.bytesWorld w e s) := ⟨rfl, rfl, rfl, by rw [Lib.bytesWorld_size]; omega, fun k hk _ => Lib.bytesWorld_at_old w e s k hk⟩
  intro next Q h
  have hexec : (execOp a.eval o).run C.P w = .ok (.value (.slice (some ⟨w.heap.size, 0, none⟩) s.size (grownCap w s.size 0 e))) (Lib.bytesWorld w e s) := by
    simp [execOp, ho, hx, hr, Result.andThen]
  refine wp_value hexec (h _ (ε.put d (.slice (some ⟨w.heap.size, 0, none⟩) s.size (grownCap w s.size 0 e)) (.int .u8)) _ ⟨?_, (Env.put_sv_same _ _ _ _).symm⟩ (ext_put hn _ (by simp) _ _) ?_)
  · show (if d = d then _ else _) ≠ none
    simp
  · rw [show updF rw [(d, some ⟨.int .u8, e, false, bytesI s⟩)] = (fun m => if m = d then some (some ⟨.int .u8, e, false, bytesI s⟩) else rw m) from rfl]
    refine mem_step hC hM (N := fun r => r = d) hp (fun _ _ h => h.elim) (fun r x hr hN => ?_) (fun r x hr hN => ?_) (fun r _ r' _ _ _ h1 h2 hne => absurd (h1.trans h2.symm) hne)
    · have hN' : r ≠ d := hN
      rw [row_put_ne rw _ hN'] at hr
      exact ⟨hr, Env.put_sv_ne _ _ _ hN', Env.put_ty_ne _ _ _ hN', fun _ _ _ h => h⟩
    · have hN' : r = d := hN
      subst hN'
      rw [row_put_same] at hr
      cases hr
      rw [Env.put_sv_same]
      refine ⟨⟨Env.put_ty_same _ _ _ _, fun h => (by cases h), ?_⟩, fun g hg => .inr (hV g hg)⟩
      rw [Env.put_sv_same]
      exact hrd
theorem good_extract (hM : Mem C rw ε w) {x : Operand} {j : Nat} (ho : o.op = .extract x j) {l : List AC} (hx : VRel rw ε (.tup l) (a.eval x)) :
    (∀ t y, l[j]? = some (.v t y) → Good C rw ε a w o (.v t y) []) ∧ (∀ r, l[j]? = some (.sl r) → Good C rw ε a w o (.sl r) []) ∧ (∀ r, l[j]? = some (.pt r) → Good C rw ε a w o (.ptr r 0) []) := by
  obtain ⟨hu, hV⟩ := hx
  refine ⟨?_, ?_, ?_⟩
  · intro t y hj
    refine good_pure hM (V := t.val y) ?_ rfl
    simp [execOp, ho, hV, Instr.extract, hj, encC, Result.andThen]
  · intro r hj
    refine good_pure hM (V := ε.sv r) ?_ ⟨hu _ (List.mem_of_getElem? hj), rfl⟩
    simp [execOp, ho, hV, Instr.extract, hj, encC, Result.andThen]
  · intro r hj
    obtain ⟨h1, ad, n, c, hsv, hn⟩ := hu _ (List.mem_of_getElem? hj)
    refine good_pure hM (V := .pointer (some ad)) ?_ ⟨h1, ad, n, c, hsv, Int.le_refl _, by omega, by simp [Addr.add]⟩
    simp [execOp, ho, hV, Instr.extract, hj, encC, hsv, toPt, Result.andThen]
theorem good_nilCheck (hM : Mem C rw ε w) {x : Operand} (ho : o.op = .nilCheck x) :
    (∀ r i, VRel rw ε (.ptr r i) (a.eval x) → Good C rw ε a w o (.ptr r i) []) ∧ (∀ r i j, VRel rw ε (.fptr r i j) (a.eval x) → Good C rw ε a w o (.fptr r i j) []) := by
  constructor
  · intro r i hx
    obtain ⟨_, ad, n, c, _, _, _, hV⟩ := id hx
    exact good_pure hM (V := a.eval x) (by simp [execOp, ho, hV]) hx
  · intro r i j hx
    obtain ⟨_, ad, n, c, _, _, _, _, _, hV⟩ := id hx
    exact good_pure hM (V := a.eval x) (by simp [execOp, ho, hV]) hx
theorem good_alloc (hC : CtxOk C) (hM : Mem C rw ε w) {e : TypeId} (ho : o.op = .alloc e) {t : Ty} (ht : C.T.ty e = some t) {d : Nat} (hd : rw d = none) : Good C rw ε a w o (.ptr d 0) [(d, some ⟨t, e, true, [t.zero]⟩)] := by
  obtain ⟨i, hi, hz, _, _⟩ := info_of (hC.tab.ty _ _ ht).1
  have hcs : cellsL t [t.zero] = t.cells t.zero := by simp [cellsL]
  have hown : OwnV (w.alloc (.cells (t.cells t.zero).toArray e)) t e [t.zero] (.slice (some ⟨w.heap.size, 0, none⟩) 1 1) := by
    have := World.ownsRow_lit (base := 0) (e := e) (size := t.sz) w (t.cells t.zero).toArray 1 (Nat.zero_le _) (by simp [maxLen]) (by simp [t.cells_length])
    unfold OwnV
    rw [hcs]
    simpa using this
  have hb : ∀ g, (Value.slice (some ⟨w.heap.size, 0, none⟩) 1 1).ownBlock = some g → w.heap.size ≤ g := by
    intro g hg
    have : w.heap.size = g := by simpa [Value.ownBlock] using hg
    omega
  have hp : Pres (fun _ => False) w (w.alloc (.cells (t.cells t.zero).toArray e)) := ⟨rfl, rfl, rfl, by simp, fun k hk _ => heap_alloc_old w _ k hk⟩
  intro next Q h
  refine wp_value (V := .pointer (some ⟨w.heap.size, 0, none⟩)) (w' := w.alloc (.cells (t.cells t.zero).toArray e)) ?_ (h _ (ε.put d (.slice (some ⟨w.heap.size, 0, none⟩) 1 1) t) _ ⟨?_, ⟨w.heap.size, 0, none⟩, 1, 1, Env.put_sv_same _ _ _ _, Int.le_refl _, by omega, by simp [Addr.add]⟩ (ext_put hd _ (by simp) _ t) (mem_new hC hM hd hp hown hb))
  · simp [execOp, ho, Instr.alloc, zeroValue, typeInfo, hi, hz, newVar, newRow, t.val_cells, Result.andThen]
  · show (if d = d then _ else _) ≠ none
    simp
theorem read_len {u : Ty} {ys : List u.den} {c : Nat} {X : Value} (h : ReadV w u ys X) (hX : X = .slice none ys.length c) : ys = [] := by
  obtain ⟨A, c', hv, _, hcell⟩ := h
  rw [hX] at hv
  injection hv with h1 _ _
  subst h1
  cases ys with
  | nil => rfl
  | cons y ys =>
    obtain ⟨u0, hu0⟩ : ∃ u0, (cellsL u (y :: ys))[0]? = some u0 := ⟨_, List.getElem?_eq_getElem (by rw [cellsL_length]; exact Nat.mul_pos (by simp) u.sz_pos)⟩
    obtain ⟨ad, hA, _⟩ := hcell 0 u0 hu0
    cases hA
/-- 'copy' into a row of one's own, from its place lo on. -/
theorem run_copyL (hC : CtxOk C) {t t' ty : TypeId} {u : Ty} {e : TypeId} (ht : C.T.sl t = some (u, e)) {xs ys : List u.den} {X : Value} {A : Option Addr} {len c : Nat} (ho : OwnV w u e xs (.slice A len c)) (hr : ReadV w u ys X) {A' : Option Addr} {c' lo n : Nat} (hn : lo + n ≤ xs.length)
    (hA : 0 < n → ∃ ad, A = some ad ∧ A' = some (ad.add (lo * u.sz))) :
    ∃ w', (Builtin.copy_ #[t, t'] ty #[.slice A' n c', X]).run C.P w = .ok (.int .i64 (Nat.min ys.length n : Nat)) w' ∧ OwnV w' u e (cpL xs ys lo n) (.slice A len c) ∧ Pres (fun k => some k = (Value.slice A len c).ownBlock) w w' := by
  obtain ⟨hu, hs, _⟩ := hC.tab.sl _ _ _ ht
  obtain ⟨B, cB, rfl, hcB, hcell⟩ := id hr
  have hcpl : cpL xs ys lo n = xs.take lo ++ ys.take (Nat.min ys.length n) ++ xs.drop (lo + Nat.min ys.length n) := rfl
  generalize hm : Nat.min ys.length n = m at *
  have hm1 : m ≤ ys.length := by rw [← hm]; exact Nat.min_le_left _ _
  have hm2 : m ≤ n := by rw [← hm]; exact Nat.min_le_right _ _
  have hlenT : (ys.take m).length = m := by rw [List.length_take]; exact Nat.min_eq_left hm1
  by_cases h0 : m = 0
  · subst h0
    have he : cpL xs ys lo n = xs := by rw [hcpl]; simp
    refine ⟨w, ?_, by rw [he]; exact ho, Pres.refl _ _⟩
    have hl : ∀ (x : Addr), (loadCells x 0).run C.P w = .ok #[] w := fun x => by simpa using run_loadCells_list (P := C.P) w x [] (by simp)
    cases A' <;> cases B <;> simp [Builtin.copy_, run_underlying hu, Builtin.lenOf, Builtin.firstCells, run_sizeOf hs, hm, storeCells, hl, Result.andThen, goInt]
  · obtain ⟨ad, rfl, rfl⟩ := hA (by omega)
    cases B with
    | none =>
      have := read_len hr rfl
      subst this
      simp at hm1
      exact absurd hm1 h0
    | some b =>
      obtain ⟨g', rfl, rfl⟩ := own_form ho
      have hcs : (cellsL u (ys.take m)).length = m * u.sz := by rw [cellsL_length, hlenT]
      have hload := run_loadCells_list (P := C.P) w b (cellsL u (ys.take m)) (fun j v hv => by
        rw [cellsL_take, List.getElem?_take] at hv
        split at hv
        · obtain ⟨ad', hA', h⟩ := hcell j v hv
          cases hA'
          exact h
        · cases hv)
      rw [hcs] at hload
      have hle : (lo + m) * u.sz ≤ xs.length * u.sz := Nat.mul_le_mul_right _ (by omega)
      rw [Nat.add_mul] at hle
      obtain ⟨w', hst, hown, hp⟩ := own_store (P := C.P) ho (lo * u.sz) (cellsL u (ys.take m)) (by rw [hcs]; exact hle) (cellsL_one _ _)
      refine ⟨w', ?_, ?_, hp.mono (fun k _ hk => by rw [hk]; rfl)⟩
      · rw [Addr.add_lit, Nat.zero_add]
        simp [Builtin.copy_, run_underlying hu, Builtin.lenOf, Builtin.firstCells, run_sizeOf hs, hm, hload, hst, Result.andThen, goInt]
      · have hlen2 : (cpL xs ys lo n).length = xs.length := by
          rw [hcpl]
          simp only [List.length_append, List.length_take, List.length_drop, hlenT]
          omega
        unfold OwnV
        rw [hlen2, hcpl, cellsL_append, cellsL_append, cellsL_drop, Nat.add_mul, cellsL_take u xs lo]
        rw [hcs] at hown
        exact hown
theorem exec_copy {t t' : TypeId} {x y : Operand} (ho : o.op = .call { callee := .builtin .copy, args := #[x, y], argTypes := #[t, t'] }) {V X V' : Value} {w' : World} (hx : a.eval x = V) (hy : a.eval y = X) (hr : (Builtin.copy_ #[t, t'] o.type #[V, X]).run C.P w = .ok V' w') :
    (execOp a.eval o).run C.P w = .ok (.value V') w' := by
  simp [execOp, ho, resolve, invoke, builtin, hx, hy, hr, Result.andThen]
theorem good_copy (hC : CtxOk C) (hM : Mem C rw ε w) {t t' : TypeId} {x y : Operand} (ho : o.op = .call { callee := .builtin .copy, args := #[x, y], argTypes := #[t, t'] }) {u : Ty} {e : TypeId} (ht : C.T.sl t = some (u, e)) {ys : List u.den} (hy : ReadV w u ys (a.eval y)) {av : AV} (hx : VRel rw ε av (a.eval x)) :
    (∀ r (z : Row) (_ : av = .sl r) (_ : row rw r = some z) (_ : z.own = true) (_ : z.e = e) (xs : List u.den) (_ : ∃ e' : z.t = u, e' ▸ z.xs = xs), Good C rw ε a w o (.v (.int .i64) (Nat.min ys.length xs.length : Int)) [(r, some ⟨u, e, true, cpL xs ys 0 xs.length⟩)]) ∧
    (∀ r p lo hi (z : Row) (_ : av = .cut r p lo hi) (_ : row rw r = some z) (_ : z.own = true) (_ : z.e = e) (xs : List u.den) (_ : ∃ e' : z.t = u, e' ▸ z.xs = xs), Good C rw ε a w o (.v (.int .i64) (Nat.min ys.length (Int.toNat (hi - lo)) : Int)) [(r, some ⟨u, e, true, cpL xs ys lo.toNat (Int.toNat (hi - lo))⟩)]) := by
  constructor
  · rintro r ⟨zt, ze, zo, zx⟩ rfl hz hzo hze xs ⟨e', hxs⟩
    have hze : ze = e := hze
    have e' : zt = u := e'
    subst hze; subst e'
    have hxs : zx = xs := hxs
    subst hxs
    obtain ⟨_, hV⟩ := hx
    obtain ⟨ho1, _⟩ := (hM.ok r _ hz).own hzo
    obtain ⟨A, c, hv, hc, hr⟩ := row_slice hM hz
    rw [hv] at ho1 hV
    obtain ⟨w', hrun, hown, hp⟩ := run_copyL (ty := o.type) (t' := t') hC ht (lo := 0) (n := zx.length) (c' := c) (A' := A) ho1 hy (show 0 + zx.length ≤ zx.length by omega) (fun h0 => by
      obtain ⟨ad, hA, _⟩ := hr 0 h0
      exact ⟨ad, hA, by rw [hA]; simp [Addr.add]⟩)
    intro next Q h
    refine wp_value (exec_copy ho hV rfl hrun) (h _ ε w' rfl ext_set (mem_set hC hM hz hzo ?_ ?_))
    · rw [hv]; exact hp
    · rw [hv]; exact hown
  · rintro r p lo hi ⟨zt, ze, zo, zx⟩ rfl hz hzo hze xs ⟨e', hxs⟩
    have hze : ze = e := hze
    have e' : zt = u := e'
    subst hze; subst e'
    have hxs : zx = xs := hxs
    subst hxs
    obtain ⟨_, A, m, c, A', c', hv, hmc, hV, hl0, hlh, hhm, hc', hne, _⟩ := hx
    obtain ⟨ho1, _⟩ := (hM.ok r _ hz).own hzo
    rw [hv] at ho1
    have hm : m = zx.length := by
      have h1 := (hM.ok r _ hz).read
      rw [hv] at h1
      exact (ReadV.at_ h1).1
    obtain ⟨w', hrun, hown, hp⟩ := run_copyL (ty := o.type) (t' := t') hC ht (lo := lo.toNat) (n := (hi - lo).toNat) (c' := c') (A' := A') ho1 hy (show lo.toNat + (hi - lo).toNat ≤ zx.length by omega) (fun h0 => by
      obtain ⟨ad, hA, hA'⟩ := hne (by omega)
      exact ⟨ad, hA, by rw [hA', (hM.ok r _ hz).ty]⟩)
    intro next Q h
    refine wp_value (exec_copy ho hV rfl hrun) (h _ ε w' rfl ext_set (mem_set hC hM hz hzo ?_ ?_))
    · rw [hv]; exact hp
    · rw [hv]; exact hown
theorem good_box (hC : CtxOk C) (hM : Mem C rw ε w) {e : TypeId} {x : Operand} (ho : o.op = .box e x) {t : Ty} (ht : C.T.ty e = some t) {y : t.den} (hx : a.eval x = t.val y) {d : Nat} (hd : rw d = none) : Good C rw ε a w o (.ptr d 0) [(d, some ⟨t, e, true, [y]⟩)] := by
  have hs := (hC.tab.ty _ _ ht).1
  have hcs : cellsL t [y] = t.cells y := by simp [cellsL]
  have hown : OwnV (w.alloc (.cells (t.cells y).toArray e)) t e [y] (.slice (some ⟨w.heap.size, 0, none⟩) 1 1) := by
    have := World.ownsRow_lit (base := 0) (e := e) (size := t.sz) w (t.cells y).toArray 1 (Nat.zero_le _) (by simp [maxLen]) (by simp [t.cells_length])
    unfold OwnV
    rw [hcs]
    simpa using this
  have hb : ∀ g, (Value.slice (some ⟨w.heap.size, 0, none⟩) 1 1).ownBlock = some g → w.heap.size ≤ g := by
    intro g hg
    have : w.heap.size = g := by simpa [Value.ownBlock] using hg
    omega
  have hp : Pres (fun _ => False) w (w.alloc (.cells (t.cells y).toArray e)) := ⟨rfl, rfl, rfl, by simp, fun k hk _ => heap_alloc_old w _ k hk⟩
  intro next Q h
  refine wp_value (V := .pointer (some ⟨w.heap.size, 0, none⟩)) (w' := w.alloc (.cells (t.cells y).toArray e)) ?_ (h _ (ε.put d (.slice (some ⟨w.heap.size, 0, none⟩) 1 1) t) _ ⟨?_, ⟨w.heap.size, 0, none⟩, 1, 1, Env.put_sv_same _ _ _ _, Int.le_refl _, by omega, by simp [Addr.add]⟩ (ext_put hd _ (by simp) _ t) (mem_new hC hM hd hp hown hb))
  · simp [execOp, ho, hx, Instr.box, newVar, newRow, t.val_cells, Result.andThen]
  · show (if d = d then _ else _) ≠ none
    simp
theorem good_index (hC : CtxOk C) (hM : Mem C rw ε w) {t : TypeId} {x i : Operand} (ho : o.op = .index t x i) (ht : C.T.ty t = some .str) {s : ByteArray} (hx : a.eval x = .string s) {k : IntKind} {n : Int} (hi : a.eval i = .int k n) (h0 : 0 ≤ n) (h1 : n < (s.size : Int)) : Good C rw ε a w o (.v (.int .u8) (bt s n)) [] := by
  have hu : C.P.underlying t = some .string := (hC.tab.ty _ _ ht).2
  have hr := run_index_string (P := C.P) w t s k n hu
  rw [dif_pos ⟨h0, h1⟩] at hr
  refine good_pure hM (V := .int .u8 (bt s n)) ?_ rfl
  have hb : bt s n = ((s[n.toNat]'(by omega)).toNat : Int) := by
    unfold bt
    rw [dif_pos (by omega)]
  rw [hb]
  simp [execOp, ho, hx, hi, hr, Result.andThen]
theorem good_substr (hC : CtxOk C) (hM : Mem C rw ε w) {t : TypeId} {x : Operand} {L H : Option Operand} (ho : o.op = .slice t x L H none) (ht : C.T.ty t = some .str) {s : ByteArray} (hx : a.eval x = .string s) {lo hi : Int} (h0 : 0 ≤ lo) (h1 : lo ≤ hi) (h2 : hi ≤ (s.size : Int))
    (hL : (∃ k, L.map a.eval = some (.int k lo)) ∨ (L.map a.eval = none ∧ lo = 0)) (hH : (∃ k, H.map a.eval = some (.int k hi)) ∨ (H.map a.eval = none ∧ hi = (s.size : Int))) : Good C rw ε a w o (.v .str (s.extract lo.toNat hi.toNat)) [] := by
  have hu : C.P.underlying t = some .string := (hC.tab.ty _ _ ht).2
  refine good_pure hM (V := .string (s.extract lo.toNat hi.toNat)) ?_ rfl
  have hr : (Instr.sliceAt t (.string s) (L.map a.eval) (H.map a.eval) none).run C.P w = .ok (.string (s.extract lo.toNat hi.toNat)) w := by
    rw [run_sliceAt_string w t _ _ _ _ hu]
    rcases hL with ⟨kl, hL⟩ | ⟨hL, rfl⟩
    · rcases hH with ⟨kh, hH⟩ | ⟨hH, rfl⟩
      · rw [hL, hH]; exact run_slice_string w t s kl kh lo hi hu h0 h1 h2
      · rw [hL, hH]; exact run_slice_string_l w t s hu kl lo h0 h1
    · rcases hH with ⟨kh, hH⟩ | ⟨hH, rfl⟩
      · rw [hL, hH]; exact run_slice_string_h w t s hu kh hi h1 h2
      · rw [hL, hH]; exact run_slice_string_all w t s hu
  simp [execOp, ho, hx, hr, Result.andThen]
theorem good_convInt (hC : CtxOk C) (hM : Mem C rw ε w) {src dst : TypeId} {x : Operand} (ho : o.op = .convert src dst x) {t : Ty} (hs : C.T.ty src = some t) {k j : IntKind} (hd : C.T.ty dst = some (.int k)) {n : Int} (hx : a.eval x = .int j n) : Good C rw ε a w o (.v (.int k) (k.wrap n)) [] := by
  have hdu : C.P.underlying dst = some (.int k) := (hC.tab.ty _ _ hd).2
  obtain ⟨d, hsu, _⟩ := (hC.tab.ty _ _ hs).1.agg
  refine good_pure hM (V := .int k (k.wrap n)) ?_ rfl
  have hr : (convert src dst (.int j n)).run C.P w = .ok (.int k (k.wrap n)) w := by
    simp [convert, run_underlying hsu, run_underlying hdu, Conv.intToInt]
  simp [execOp, ho, hx, hr, Result.andThen]
theorem good_i2f (hC : CtxOk C) (hM : Mem C rw ε w) {src dst : TypeId} {x : Operand} (ho : o.op = .convert src dst x) {t : Ty} (hs : C.T.ty src = some t) {j : IntKind} (hd : C.T.ty dst = some .flt) {n : Int} (hx : a.eval x = .int j n) : Good C rw ε a w o (.v .flt (C.T.i2f n)) [] := by
  have hdu : C.P.underlying dst = some (.float .f64) := (hC.tab.ty _ _ hd).2
  obtain ⟨d, hsu, _⟩ := (hC.tab.ty _ _ hs).1.agg
  refine good_pure hM (V := .float .f64 (C.T.i2f n)) ?_ rfl
  have hr := run_convert_int_float (P := C.P) w src dst j .f64 n (by rw [hsu]; rfl) hdu
  rw [← hC.tab.i2f] at hr
  simp [execOp, ho, hx, hr, Result.andThen]
theorem good_i2s (hC : CtxOk C) (hM : Mem C rw ε w) {src dst : TypeId} {x : Operand} (ho : o.op = .convert src dst x) {t : Ty} (hs : C.T.ty src = some t) {j : IntKind} (hd : C.T.ty dst = some .str) {n : Int} (hx : a.eval x = .int j n) : Good C rw ε a w o (.v .str (strOfRunes [n])) [] := by
  have hdu : C.P.underlying dst = some .string := (hC.tab.ty _ _ hd).2
  obtain ⟨d, hsu, _⟩ := (hC.tab.ty _ _ hs).1.agg
  refine good_pure hM (V := .string (strOfRunes [n])) ?_ rfl
  have hr := run_convert_int_string (P := C.P) w src dst j n (by rw [hsu]; rfl) hdu
  have e : strOfRunes [n] = Utf8.encode n := by simp [strOfRunes, runesBytes]
  rw [e]
  simp [execOp, ho, hx, hr, Result.andThen]
theorem good_f2i (hC : CtxOk C) (hM : Mem C rw ε w) {src dst : TypeId} {x : Operand} (ho : o.op = .convert src dst x) {t : Ty} (hs : C.T.ty src = some t) {k : IntKind} (hd : C.T.ty dst = some (.int k)) {n : Nat} (hx : a.eval x = .float .f64 n) (hk : C.T.f2iOk k n = true) : Good C rw ε a w o (.v (.int k) (C.T.f2i k n)) [] := by
  have hdu : C.P.underlying dst = some (.int k) := (hC.tab.ty _ _ hd).2
  obtain ⟨d, hsu, _⟩ := (hC.tab.ty _ _ hs).1.agg
  refine good_pure hM (V := .int k (C.T.f2i k n)) ?_ rfl
  have hr := run_convert_float_int (P := C.P) w src dst .f64 k n _ (by rw [hsu]; rfl) hdu (hC.tab.f2i k n hk)
  simp [execOp, ho, hx, hr, Result.andThen]
theorem cellsL_rep (t : Ty) (x : t.den) : ∀ (n j : Nat), (cellsL t (List.replicate n x))[j]? = if j < n * t.sz then (t.cells x)[j % t.sz]? else none
  | 0, j => by simp [cellsL]
  | n + 1, j => by
    have hp := t.sz_pos
    have hl := t.cells_length x
    rw [List.replicate_succ, cellsL_cons, List.getElem?_append, hl]
    by_cases h : j < t.sz
    · rw [if_pos h, if_pos (by rw [Nat.add_mul]; omega), Nat.mod_eq_of_lt h]
    · rw [if_neg h, cellsL_rep t x n (j - t.sz), ← Nat.mod_eq_sub_mod (by omega)]
      by_cases h2 : j - t.sz < n * t.sz
      · rw [if_pos h2, if_pos (by rw [Nat.add_mul]; omega)]
      · rw [if_neg h2, if_neg (by rw [Nat.add_mul]; omega)]
theorem made_take (t : Ty) (x : t.den) (l c : Nat) (h : l ≤ c) : (madeCells (t.cells x).toArray (c * t.sz)).toList.take (l * t.sz) = cellsL t (List.replicate l x) := by
  apply List.ext_getElem?
  intro j
  have hp := t.sz_pos
  have hlc := Nat.mul_le_mul_right t.sz h
  rw [cellsL_rep, List.getElem?_take]
  by_cases hj : j < l * t.sz
  · rw [if_pos hj, if_pos hj]
    have hm : j % t.sz < t.sz := Nat.mod_lt _ hp
    have hjc : j < c * t.sz := by omega
    simp [madeCells, hjc, t.cells_length, hm]
  · rw [if_neg hj, if_neg hj]
theorem good_make (hC : CtxOk C) (hM : Mem C rw ε w) {t : TypeId} {x y : Operand} (ho : o.op = .makeSlice t x y) {u : Ty} {e : TypeId} (ht : C.T.sl t = some (u, e)) {kl kc : IntKind} {l c : Int} (hx : a.eval x = .int kl l) (hy : a.eval y = .int kc c) (h0 : 0 ≤ l) (h1 : l ≤ c) (h2 : c < 1000000000000) {d : Nat} (hd : rw d = none) :
    Good C rw ε a w o (.sl d) [(d, some ⟨u, e, true, List.replicate l.toNat u.zero⟩)] := by
  obtain ⟨hu, hs, _⟩ := hC.tab.sl _ _ _ ht
  obtain ⟨i, hi, hz, hsz, hb⟩ := info_of hs
  have hb' : (i.bytes : Int) * c ≤ 281474976710656 := by
    have h3 : (i.bytes : Int) * c ≤ 140 * c := Int.mul_le_mul_of_nonneg_right (by omega) (by omega)
    omega
  have hr := run_make (P := C.P) w t e i _ hu hi hz kl kc l c h0 h1 hb' (by omega)
  refine good_new hC hM hd (w' := w.alloc (.cells (madeCells (u.val u.zero).cells (c.toNat * i.size)) e)) (V := .slice (some ⟨w.heap.size, 0, none⟩) l.toNat c.toNat) ⟨rfl, rfl, rfl, by simp, fun k hk _ => heap_alloc_old w _ k hk⟩ ?_ ?_ ?_
  · refine ⟨by rw [cellsL_length], .inr ⟨w.heap.size, c.toNat, _, by rw [List.length_replicate], Nat.zero_le _, heap_alloc_new _ _, by rw [List.length_replicate]; omega, by simp only [maxLen]; omega, by rw [size_madeCells, hsz], ?_⟩⟩
    rw [List.length_replicate, hsz, u.val_cells]
    exact made_take u u.zero l.toNat c.toNat (by omega)
  · intro g' hg'
    have : w.heap.size = g' := by simpa [Value.ownBlock] using hg'
    omega
  · simp [execOp, ho, hx, hy, hr, Result.andThen]
theorem maxI_run (hC : CtxOk C) (hS : Slots rw ε g a) {k : IntKind} : ∀ (l : List Operand) (x n : Int), maxI C.T g k x l = some n → ((l.map a.eval).foldlM Builtin.max2 (.int k x)).run C.P w = .ok (.int k n) w
  | [], x, n, h => by cases h; rfl
  | o :: l, x, n, h => by
    unfold maxI at h
    split at h
    · rename_i j y hy
      obtain ⟨hk, h⟩ := bif_some h
      cases kbeq_eq hk
      have hv : a.eval o = .int k y := opd_rel hS hy
      rw [hC.tab.lt] at h
      rw [List.map_cons, List.foldlM_cons, hv, Sem.run_bind]
      have e : (Builtin.max2 (.int k x) (.int k y)).run C.P w = .ok (.int k (bif decide (x < y) then y else x)) w := by
        by_cases c : x < y <;> simp [Builtin.max2, c]
      rw [e]
      exact maxI_run hC hS l _ _ h
    · cases h
theorem minI_run (hC : CtxOk C) (hS : Slots rw ε g a) {k : IntKind} : ∀ (l : List Operand) (x n : Int), minI C.T g k x l = some n → ((l.map a.eval).foldlM Builtin.min2 (.int k x)).run C.P w = .ok (.int k n) w
  | [], x, n, h => by cases h; rfl
  | o :: l, x, n, h => by
    unfold minI at h
    split at h
    · rename_i j y hy
      obtain ⟨hk, h⟩ := bif_some h
      cases kbeq_eq hk
      have hv : a.eval o = .int k y := opd_rel hS hy
      rw [hC.tab.lt] at h
      rw [List.map_cons, List.foldlM_cons, hv, Sem.run_bind]
      have e : (Builtin.min2 (.int k x) (.int k y)).run C.P w = .ok (.int k (bif decide (y < x) then y else x)) w := by
        by_cases c : y < x <;> simp [Builtin.min2, c]
      rw [e]
      exact minI_run hC hS l _ _ h
    · cases h
theorem good_max (hC : CtxOk C) (hM : Mem C rw ε w) (hS : Slots rw ε g a) {args : Array Operand} {ts : Array TypeId} (ho : o.op = .call { callee := .builtin .max, args := args, argTypes := ts }) {x : Operand} {l : List Operand} (ha : args.toList = x :: l) {k : IntKind} {n m : Int} (hx : a.eval x = .int k n) (hm : maxI C.T g k n l = some m) : Good C rw ε a w o (.v (.int k) m) [] := by
  refine good_pure hM (V := .int k m) ?_ rfl
  have e : (args.map a.eval).toList = .int k n :: l.map a.eval := by rw [Array.toList_map, ha, List.map_cons, hx]
  have hr : (Builtin.max_ ts o.type (args.map a.eval)).run C.P w = .ok (.int k m) w := by
    unfold Builtin.max_
    rw [e]
    exact maxI_run hC hS l n m hm
  simp [execOp, ho, resolve, invoke, builtin, hr, Result.andThen]
theorem good_min (hC : CtxOk C) (hM : Mem C rw ε w) (hS : Slots rw ε g a) {args : Array Operand} {ts : Array TypeId} (ho : o.op = .call { callee := .builtin .min, args := args, argTypes := ts }) {x : Operand} {l : List Operand} (ha : args.toList = x :: l) {k : IntKind} {n m : Int} (hx : a.eval x = .int k n) (hm : minI C.T g k n l = some m) : Good C rw ε a w o (.v (.int k) m) [] := by
  refine good_pure hM (V := .int k m) ?_ rfl
  have e : (args.map a.eval).toList = .int k n :: l.map a.eval := by rw [Array.toList_map, ha, List.map_cons, hx]
  have hr : (Builtin.min_ ts o.type (args.map a.eval)).run C.P w = .ok (.int k m) w := by
    unfold Builtin.min_
    rw [e]
    exact minI_run hC hS l n m hm
  simp [execOp, ho, resolve, invoke, builtin, hr, Result.andThen]
end
end Go.Ev

/- Calls: what is handed over and what comes back. -/
namespace Go.Ev
open Go.RowKit
/-- An object of the heap. -/
def ObjOk (η : HEnv) (w : World) (n : Nat) : Obj → Prop
  | .cells e sz cs => (0 < sz ∧ η.zs n = sz) ∧ ∃ m XS, w.ownsRow 0 e sz (η.hv n) m XS ∧ All2 (CellRel η) cs XS
  | .ro cs => η.zs n = 0 ∧ ((cs = [] ∧ η.hv n = .slice none 0 0) ∨ ∃ b m c XS, η.hv n = .slice (some ⟨b, 0, none⟩) m c ∧ b < w.heap.size ∧ All2 (CellRel η) cs XS ∧ ∀ j u, XS[j]? = some u → w.cell? ⟨b, j, none⟩ = some u)
  | .iter s pos => ∃ b, η.hv n = .slice (some ⟨b, 0, none⟩) 0 0 ∧ w.heap[b]? = some (.stringIter s pos)
structure HpOk (η : HEnv) (w : World) (h : Hp) : Prop where
  nx : h.nx = η.nx
  ob : ∀ n o, h.ob n = some o → n < η.nx ∧ ObjOk η w n o
  sep : ∀ n m, h.ob n ≠ none → h.ob m ≠ none → n ≠ m → ∀ b, (η.hv n).ownBlock = some b → (η.hv m).ownBlock ≠ some b
theorem HpOk.empty {η : HEnv} (w : World) (h : η.nx = 0) : HpOk η w Hp.empty := ⟨h.symm, (fun n o h => by cases h), (fun n m h => absurd rfl h)⟩
def ArgOk (η : HEnv) (w : World) (S : Nat → Prop) : (p : Par) → p.den → Value → Prop
  | .hp, _, _ => False
  | .h t, x, V => HRel η t x V
  | .fn, x, V => ∃ cs, V = .func (.func x.1) #[] cs.toArray ∧ All2 (EncP η) x.2 cs
  | .v t, x, V => V = t.val x
  | .op, _, _ => True
  | .read t _, xs, V => ReadV w t xs V ∧ (xs ≠ [] → ∀ g, V.ownBlock = some g → ¬ S g)
  | .own t e, xs, V => OwnV w t e xs V ∧ ∀ g, V.ownBlock = some g → S g
  | .pt t _, x, V => ∃ ad, V = .pointer (some ad) ∧ ReadV w t [x] (.slice (some ad) 1 1) ∧ ¬ S ad.block
def ArgsOk (η : HEnv) (w : World) (S : Nat → Prop) : (ps : List Par) → argL ps → List Value → Prop
  | [], _, [] => True
  | p :: ps, x, V :: Vs => ArgOk η w S p x.1 V ∧ ArgsOk η w S ps x.2 Vs
  | _, _, _ => False
def ownVals : List Par → List Value → List Value
  | .own _ _ :: ps, V :: Vs => V :: ownVals ps Vs
  | _ :: ps, _ :: Vs => ownVals ps Vs
  | _, _ => []
def apart2 (V V' : Value) : Prop := ∀ g, V.ownBlock = some g → V'.ownBlock ≠ some g
/-- What comes back: new values; rows in blocks that were given away, or new ones. -/
def RetOk (η : HEnv) (w w' : World) (S : Nat → Prop) : (t : RTy) → t.den → Value → Prop
  | .hp, _, _ => False
  | .h t, x, V => HRel η t x V
  | .v t, x, V => V = t.val x
  | .sl t e, xs, V => OwnV w' t e xs V ∧ ∀ g, V.ownBlock = some g → S g ∨ w.heap.size ≤ g
  | .pt t e, x, V => ∃ ad c, V = .pointer (some ad) ∧ OwnV w' t e [x] (.slice (some ad) 1 c) ∧ (S ad.block ∨ w.heap.size ≤ ad.block)
def RetsOk (η : HEnv) (w w' : World) (S : Nat → Prop) : (rs : List RTy) → retL rs → List Value → Prop
  | [], _, [] => True
  | [t], x, [V] => RetOk η w w' S t x V
  | t :: r :: l, x, V :: Vs => RetOk η w w' S t x.1 V ∧ RetsOk η w w' S (r :: l) x.2 Vs
  | _, _, _ => False
def toSl : Value → Value
  | .pointer A => .slice A 1 1
  | v => v
def rowVals : List RTy → List Value → List Value
  | .pt _ _ :: rs, V :: Vs => toSl V :: rowVals rs Vs
  | .sl _ _ :: rs, V :: Vs => V :: rowVals rs Vs
  | .v _ :: rs, _ :: Vs => rowVals rs Vs
  | .h _ :: rs, _ :: Vs => rowVals rs Vs
  | _, _ => []
def retV : List Value → Value
  | [V] => V
  | l => .tuple l.toArray
/-- A function does what its table says. -/
def CallOk (P : Program) (W0 : World) (sg : FuncId → Sig) (callF : (f : FuncId) → argL (sg f).ps → Option (retL (sg f).rs)) (f : FuncId) : Prop :=
  ∀ xs r, callF f xs = some r → (∀ args w, (callFunc f args).run P w = .ok (.enter f args) w) ∧
    ∀ (η : HEnv) (w : World) (S : Nat → Prop) (Vs : List Value), Below W0.heap.size W0 w → (∀ g, S g → W0.heap.size ≤ g) → ArgsOk η w S (strip (sg f).ps) (stripA (sg f).ps xs) Vs → (ownVals (strip (sg f).ps) Vs).Pairwise apart2 →
      HpOk η w (hpA (sg f).ps xs) → (∀ n, (hpA (sg f).ps xs).ob n ≠ none → ∀ b, (η.hv n).ownBlock = some b → S b ∧ ∀ V ∈ ownVals (strip (sg f).ps) Vs, V.ownBlock ≠ some b) →
      Calls P f Vs.toArray w fun e w' => ∃ Rs η', e = .returned (retV Rs) ∧ RetsOk η' w w' S (stripT (sg f).rs) (stripR (sg f).rs r) Rs ∧ (rowVals (stripT (sg f).rs) Rs).Pairwise apart2 ∧ Pres S w w' ∧
        η.le η' ∧ HpOk η' w' (hpR (sg f).rs r) ∧ ∀ n, (hpR (sg f).rs r).ob n ≠ none → ∀ b, (η'.hv n).ownBlock = some b → (S b ∨ w.heap.size ≤ b) ∧ ∀ V ∈ rowVals (stripT (sg f).rs) Rs, V.ownBlock ≠ some b
theorem mem_iff (n : Nat) : ∀ l : List Nat, mem n l = true ↔ n ∈ l
  | [] => by simp [mem]
  | m :: l => by
    have ih := mem_iff n l
    unfold mem
    cases hb : Nat.beq m n with
    | true =>
      have := Nat.eq_of_beq_eq_true hb
      simp [this]
    | false =>
      have : m ≠ n := Nat.ne_of_beq_eq_false hb
      simp only [cond_false, ih, List.mem_cons]
      constructor
      · exact .inr
      · rintro (h | h)
        · exact absurd h.symm this
        · exact h
theorem disj_spec : ∀ {l m : List Nat}, disj l m = true → ∀ n ∈ l, n ∉ m
  | [], _, _, _, h => by cases h
  | x :: l, m, h, n, hn => by
    unfold disj at h
    cases hb : mem x m with
    | true => rw [hb] at h; cases h
    | false =>
      rw [hb] at h
      rcases List.mem_cons.1 hn with rfl | hn
      · intro hm
        rw [(mem_iff n m).2 hm] at hb
        cases hb
      · exact disj_spec (l := l) h n hn
theorem mem_given {us : Upd} {n : Nat} : n ∈ given us ↔ ∃ x, (n, x) ∈ us := by
  induction us with
  | nil => simp [given]
  | cons p us ih =>
    obtain ⟨m, x⟩ := p
    simp only [given, List.mem_cons, ih, Prod.mk.injEq]
    constructor
    · rintro (rfl | ⟨y, h⟩)
      · exact ⟨x, .inl ⟨rfl, rfl⟩⟩
      · exact ⟨y, .inr h⟩
    · rintro ⟨y, ⟨rfl, rfl⟩ | h⟩
      · exact .inl rfl
      · exact .inr ⟨y, h⟩
theorem given_append (us vs : Upd) : given (us ++ vs) = given us ++ given vs := by
  induction us with
  | nil => rfl
  | cons p us ih => obtain ⟨m, x⟩ := p; simp [given, ih]
theorem updF_append (rw : RW) (us vs : Upd) : updF rw (us ++ vs) = updF (updF rw us) vs := by
  induction us generalizing rw with
  | nil => rfl
  | cons p us ih => obtain ⟨m, x⟩ := p; exact ih _
theorem updF_notin (rw : RW) (us : Upd) {n : Nat} (h : n ∉ given us) : updF rw us n = rw n := by
  induction us generalizing rw with
  | nil => rfl
  | cons p us ih =>
    obtain ⟨m, x⟩ := p
    simp only [given, List.mem_cons, not_or] at h
    show updF _ us n = _
    rw [ih _ h.2]
    simp [h.1]
theorem updF_in (rw : RW) (us : Upd) {n : Nat} {x : Option Row} (h : (n, x) ∈ us) (hd : (given us).Nodup) : updF rw us n = some x := by
  induction us generalizing rw with
  | nil => cases h
  | cons p us ih =>
    obtain ⟨m, y⟩ := p
    simp only [given, List.nodup_cons] at hd
    show updF _ us n = _
    rcases List.mem_cons.1 h with h | h
    · cases h
      rw [updF_notin _ _ hd.1]
      simp
    · exact ih _ h hd.2
theorem updF_used (rw : RW) (us : Upd) {n : Nat} (h : rw n ≠ none ∨ n ∈ given us) : updF rw us n ≠ none := by
  induction us generalizing rw with
  | nil =>
    rcases h with h | h
    · exact h
    · cases h
  | cons p us ih =>
    obtain ⟨m, y⟩ := p
    show updF _ us n ≠ _
    refine ih _ ?_
    rcases h with h | h
    · left
      show (if n = m then _ else _) ≠ none
      split
      · simp
      · exact h
    · simp only [given, List.mem_cons] at h
      rcases h with rfl | h
      · left
        show (if n = n then _ else _) ≠ none
        simp
      · exact .inr h
theorem updF_kill (rw : RW) (us : Upd) (hn : ∀ m x, (m, x) ∈ us → x = none) {n : Nat} (h : n ∈ given us) : updF rw us n = some none := by
  induction us generalizing rw with
  | nil => cases h
  | cons p us ih =>
    obtain ⟨m, y⟩ := p
    have hy : y = none := hn m y (by simp)
    subst hy
    show updF _ us n = _
    by_cases hin : n ∈ given us
    · exact ih _ (fun m x hm => hn m x (List.mem_cons_of_mem _ hm)) hin
    · rw [updF_notin _ _ hin]
      simp only [given, List.mem_cons] at h
      simp [h.resolve_right hin]
section
variable {C : Ctx} {rw : RW} {ε : Env} {w w' : World} {g : Nat → Option AV} {a : Act} {o : Oper} {R : Type}
theorem argRow_sl {x : Operand} {r : Nat} {T : Tab} (h : opd T g 0 x = some (.sl r)) : argRow g x = [r] := by
  cases x with
  | tmp t =>
    have h : g t = some (.sl r) := h
    unfold argRow
    simp only [h]
  | const v =>
    have h : constV T 0 v = some (.sl r) := h
    unfold constV at h
    split at h <;> first | cases h | skip
    all_goals (split at h <;> first | cases h | skip)
    all_goals (split at h <;> first | cases h | skip)
    all_goals (split at h <;> cases h)
  | global _ => cases h
  | func _ => cases h
theorem argRow_cut {x : Operand} {r : Nat} {p : Bool} {lo hi : Int} {T : Tab} (h : opd T g 0 x = some (.cut r p lo hi)) : argRow g x = [r] := by
  cases x with
  | tmp t =>
    have h : g t = some (.cut r p lo hi) := h
    unfold argRow
    simp only [h]
  | const v =>
    have h : constV T 0 v = some (.cut r p lo hi) := h
    unfold constV at h
    split at h <;> first | cases h | skip
    all_goals (split at h <;> first | cases h | skip)
    all_goals (split at h <;> first | cases h | skip)
    all_goals (split at h <;> cases h)
  | global _ => cases h
  | func _ => cases h
theorem argRow_ptr {x : Operand} {r : Nat} {i : Int} {T : Tab} (h : opd T g 0 x = some (.ptr r i)) : argRow g x = [r] := by
  cases x with
  | tmp t =>
    have h : g t = some (.ptr r i) := h
    unfold argRow
    simp only [h]
  | const v =>
    have h : constV T 0 v = some (.ptr r i) := h
    unfold constV at h
    split at h <;> first | cases h | skip
    all_goals (split at h <;> first | cases h | skip)
    all_goals (split at h <;> first | cases h | skip)
    all_goals (split at h <;> cases h)
  | global _ => cases h
  | func _ => cases h
theorem ownV_nil (w : World) (t : Ty) (e : TypeId) : OwnV w t e [] (.slice none 0 0) := World.ownsRow_nil w 0 e t.sz
theorem readV_nil (w : World) (t : Ty) : ReadV w t [] (.slice none 0 0) := ⟨none, 0, rfl, Nat.le_refl _, fun j u hu => by simp [cellsL] at hu⟩
/-- One argument. -/
theorem toArg_sound (hM : Mem C rw ε w) (hS : Slots rw ε g a) {p : Par} {x : Operand} {y : p.den} {us : Upd} (h : toArg C.T g rw p x = some (y, us)) :
    (us = [] ∨ ∃ r z, us = [(r, none)] ∧ row rw r = some z ∧ z.own = true ∧ argRow g x = [r]) ∧
    (∀ S : Nat → Prop, (∀ r ∈ given us, ∀ b, (ε.sv r).ownBlock = some b → S b) → (∀ r ∈ argRow g x, r ∉ given us → ∀ z, row rw r = some z → z.xs ≠ [] → ∀ b, (ε.sv r).ownBlock = some b → ¬ S b) → ∀ η, ArgOk η w S p y (a.eval x)) ∧
    (∀ t e, p = .own t e → ∀ b, (a.eval x).ownBlock = some b → ∃ r ∈ given us, (ε.sv r).ownBlock = some b) := by
  cases p with
  | v t =>
    simp only [toArg] at h
    split at h
    · rename_i y' hy
      cases h
      exact ⟨.inl rfl, fun S _ _ _ => opdDen_rel hS hy, fun t e h => by cases h⟩
    · cases h
  | op =>
    simp only [toArg] at h
    cases h
    exact ⟨.inl rfl, fun S _ _ _ => trivial, fun t e h => by cases h⟩
  | hp => cases h
  | h t => cases h
  | fn => cases h
  | pt t e =>
    simp only [toArg] at h
    split at h
    · rename_i r i hav
      split at h
      · rename_i z hz
        obtain ⟨_, h⟩ := bif_some h
        split at h
        · rename_i xs hxs
          cases h
          obtain ⟨hc, hxs⟩ := cast?_eq (F := fun t => List t.den) hxs
          obtain ⟨zt, ze, zo, zx⟩ := z
          have hc : zt = t := hc
          subst hc
          have hxs : zx = xs := hxs
          subst hxs
          obtain ⟨hu, ad, n, c, hsv, h0, h1, hV⟩ := opd_rel hS hav
          obtain ⟨A, c', hv', hc', hr⟩ := row_slice hM hz
          rw [hsv] at hv'
          injection hv' with e1 e2 e3
          subst e3
          have hi : i.toNat < zx.length := by
            have : n = zx.length := e2
            omega
          obtain ⟨ad', hA, hcell⟩ := hr i.toNat hi
          rw [← e1] at hA
          cases hA
          rw [(hM.ok r _ hz).ty] at hV
          have hbl : (ad.add (i.toNat * zt.sz)).block = ad.block := by unfold Addr.add; split <;> rfl
          refine ⟨.inl rfl, fun S _ h2 _ => ⟨_, hV, ⟨_, 1, rfl, Nat.le_refl _, fun j u hu => ⟨_, rfl, ?_⟩⟩, ?_⟩, fun t e h => by cases h⟩
          · have hu : (zt.cells (nth zt zx i) ++ [])[j]? = some u := hu
            rw [List.append_nil, nth_eq _ _ _ hi] at hu
            exact hcell j u hu
          · rw [hbl]
            refine h2 r (by rw [argRow_ptr hav]; simp) (by simp [given]) _ hz ?_ ad.block (by rw [hsv]; rfl)
            intro h0'
            have h0' : zx = [] := h0'
            rw [h0'] at hi
            simp at hi
        · cases h
      · cases h
    · cases h
  | read t e =>
    simp only [toArg] at h
    split at h
    · cases h
      exact ⟨.inl rfl, fun S _ _ _ => ⟨readV_nil w t, fun h => absurd rfl h⟩, fun t e h => by cases h⟩
    · split at h
      · rename_i av hav
        split at h
        · rename_i z hz
          obtain ⟨_, h⟩ := bif_some h
          split at h
          · rename_i xs hxs
            cases h
            obtain ⟨hr, hform⟩ := listOf_read hM (opd_rel hS hav) hz
            have hF : z.xs ≠ [] → ∀ b, (a.eval x).ownBlock = some b → ∃ r ∈ argRow g x, ∃ z', row rw r = some z' ∧ z'.xs ≠ [] ∧ (ε.sv r).ownBlock = some b := by
              intro hne b hb
              rcases hform with ⟨r, rfl, hrow⟩ | ⟨r, p, lo, hi, x', rfl, hrow, rfl⟩ | ⟨t', e', rfl, rfl⟩
              · have hv := opd_rel hS hav
                rw [hv.2] at hb
                exact ⟨r, by rw [argRow_sl hav]; simp, _, hrow, hne, hb⟩
              · obtain ⟨_, A, m, c, A', c', hv, hmc, hV, hl0, hlh, hhm, hc', hne', hz0⟩ := opd_rel hS hav
                have hlt : lo < hi := by
                  by_cases hlt : lo < hi
                  · exact hlt
                  · refine absurd ?_ hne
                    show (x'.xs.drop lo.toNat).take (hi.toNat - lo.toNat) = []
                    rw [show hi.toNat - lo.toNat = 0 by omega, List.take_zero]
                obtain ⟨ad, hA, hA'⟩ := hne' hlt
                refine ⟨r, by rw [argRow_cut hav]; simp, _, hrow, ?_, ?_⟩
                · have h1 := (hM.ok r _ hrow).read
                  rw [hv] at h1
                  have := (ReadV.at_ h1).1
                  intro h0
                  rw [h0] at this
                  simp at this
                  omega
                · rw [hV, hA'] at hb
                  rw [hv, hA]
                  have hbl : (ad.add (lo.toNat * (ε.ty r).sz)).block = ad.block := by unfold Addr.add; split <;> rfl
                  simp only [Value.ownBlock, hbl] at hb ⊢
                  exact hb
              · exact absurd rfl hne
            obtain ⟨hc, hxs⟩ := cast?_eq (F := fun t => List t.den) hxs
            obtain ⟨zt, ze, zo, zx⟩ := z
            have hc : zt = t := hc
            subst hc
            have hxs : zx = y := hxs
            subst hxs
            refine ⟨.inl rfl, fun S _ h2 _ => ⟨hr, fun hne b hb => ?_⟩, fun t e h => by cases h⟩
            obtain ⟨r, hrx, z', hrow, hz', hb'⟩ := hF hne b hb
            exact h2 r hrx (by simp [given]) z' hrow hz' b hb'
          · cases h
        · cases h
      · cases h
  | own t e =>
    simp only [toArg] at h
    split at h
    · cases h
      refine ⟨.inl rfl, fun S _ _ _ => ⟨ownV_nil w t e, fun b hb => ?_⟩, fun t e h b hb => ?_⟩
      · simp [Act.eval, Value.ownBlock] at hb
      · simp [Act.eval, Value.ownBlock] at hb
    · split at h
      · rename_i r hav
        split at h
        · rename_i z hz
          obtain ⟨ho, h⟩ := bif_some h
          obtain ⟨he, h⟩ := bif_some h
          split at h
          · rename_i xs hxs
            cases h
            obtain ⟨hc, hxs⟩ := cast?_eq (F := fun t => List t.den) hxs
            have he := Nat.eq_of_beq_eq_true he
            obtain ⟨zt, ze, zo, zx⟩ := z
            have hc : zt = t := hc
            subst hc
            have hxs : zx = y := hxs
            subst hxs
            have he : ze = e := he
            subst he
            have hv := opd_rel hS hav
            refine ⟨.inr ⟨r, _, rfl, hz, ho, argRow_sl hav⟩, fun S h1 _ _ => ?_, fun t e h b hb => ?_⟩
            · show OwnV w zt ze zx (a.eval x) ∧ _
              rw [hv.2]
              exact ⟨((hM.ok r _ hz).own ho).1, fun b hb => h1 r (by simp [given]) b hb⟩
            · rw [hv.2] at hb
              exact ⟨r, by simp [given], hb⟩
          · cases h
        · cases h
      · rename_i t' e' hav
        cases h
        have hv : a.eval x = .slice none 0 0 := opd_rel hS hav
        refine ⟨.inl rfl, fun S _ _ _ => ?_, fun t e h b hb => ?_⟩
        · show OwnV w t e [] (a.eval x) ∧ _
          rw [hv]
          exact ⟨ownV_nil w t e, fun b hb => by simp [Value.ownBlock] at hb⟩
        · rw [hv] at hb
          simp [Value.ownBlock] at hb
      · cases h
end
end Go.Ev

