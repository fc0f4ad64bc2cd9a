import Derived.Test.YtfglahmbnnkijaaEvT
/- Written by a program of this session (wip/ev4dev): what the functions' places evaluate to. Not trusted: Lean checks it. -/
set_option linter.unusedVariables false
namespace Go.Proofs.Ytfglahmbnnkijaa.E
open Go.Ev
theorem append_j1_eq (K k : Nat) (x0 : Rf) (x1 : Int) (x2 : Int) (h : Hp) : append_j1 K (k + 1) x0 x1 x2 h =
  Option.bind ((Hp.cs (Hp.new h (154 : TypeId) (.p TS2) ((x1, (x2, (1 : Int))) :: [])) 3 (Rf.at (h).1 0 1))) fun r0 =>
  chk (ltI (((rlen x0) : Int) + ((r0).2 : Int)) (1000000000000 : Int)) (Option.bind ((Hp.app (Hp.new h (154 : TypeId) (.p TS2) ((x1, (x2, (1 : Int))) :: [])) (154 : TypeId) 3 (r0).1 (r0).2 x0)) fun r1 =>
  some ((r1).2, (r1).1)) := by kernel_rfl
theorem zzSort_eq (K : Nat) (x0 : Hp) (x1 : Rf) (x2 : Nat × List Pf) : zzSort (K + 1) x0 x1 x2 =
  zzSort_l0 K K x1 (x2).1 (x2).2 (1 : Int) x0 := by kernel_rfl
theorem zzSort_l0_eq (K k : Nat) (x0 : Rf) (f1 : Nat) (c1 : List (Pf)) (x4 : Int) (h : Hp) : zzSort_l0 K (k + 1) x0 f1 c1 x4 h =
  br (ltI x4 ((rlen x0) : Int))
  (zzSort_j0 K k x0 f1 c1 x4 h)
  (some h) := by kernel_rfl
theorem zzSort_j0_eq (K k : Nat) (x0 : Rf) (f1 : Nat) (c1 : List (Pf)) (x4 : Int) (h : Hp) : zzSort_j0 K (k + 1) x0 f1 c1 x4 h =
  zzSort_l1 K k x0 f1 c1 x4 x4 h := by kernel_rfl
theorem zzSort_l1_eq (K k : Nat) (x0 : Rf) (f1 : Nat) (c1 : List (Pf)) (x4 : Int) (x5 : Int) (h : Hp) : zzSort_l1 K (k + 1) x0 f1 c1 x4 x5 h =
  br (ltI (0 : Int) x5)
  (chk (leI (0 : Int) x5) (chk (ltI x5 ((rlen x0) : Int)) (Option.bind ((Hp.ld h (.p TS2) (radr 3 (Int.toNat x5) x0))) fun r0 =>
   chk (leI (0 : Int) (IntKind.wrap IntKind.i64 (x5 - (1 : Int)))) (chk (ltI (IntKind.wrap IntKind.i64 (x5 - (1 : Int))) ((rlen x0) : Int)) (Option.bind ((Hp.ld h (.p TS2) (radr 3 (Int.toNat (IntKind.wrap IntKind.i64 (x5 - (1 : Int)))) x0))) fun r1 =>
   br (Nat.beq f1 (103 : Go.FuncId))
   (chk (nilC c1) (Option.bind (fix_1 K r0 r1) fun r2 =>
    br r2
    (zzSort_j1 K k x0 f1 c1 x4 x5 h)
    (zzSort_l0 K k x0 f1 c1 (IntKind.wrap IntKind.i64 (x4 + (1 : Int))) h)))
   (br (Nat.beq f1 (106 : Go.FuncId))
    (chk (nilC c1) (Option.bind (sort_1 K r0 r1) fun r2 =>
     br r2
     (zzSort_j1 K k x0 f1 c1 x4 x5 h)
     (zzSort_l0 K k x0 f1 c1 (IntKind.wrap IntKind.i64 (x4 + (1 : Int))) h)))
    (none)))))))
  (zzSort_l0 K k x0 f1 c1 (IntKind.wrap IntKind.i64 (x4 + (1 : Int))) h) := by kernel_rfl
theorem zzSort_j1_eq (K k : Nat) (x0 : Rf) (f1 : Nat) (c1 : List (Pf)) (x4 : Int) (x5 : Int) (h : Hp) : zzSort_j1 K (k + 1) x0 f1 c1 x4 x5 h =
  chk (leI (0 : Int) (IntKind.wrap IntKind.i64 (x5 - (1 : Int)))) (chk (ltI (IntKind.wrap IntKind.i64 (x5 - (1 : Int))) ((rlen x0) : Int)) (Option.bind ((Hp.ld h (.p TS2) (radr 3 (Int.toNat (IntKind.wrap IntKind.i64 (x5 - (1 : Int)))) x0))) fun r0 =>
  chk (leI (0 : Int) x5) (chk (ltI x5 ((rlen x0) : Int)) (Option.bind ((Hp.ld h (.p TS2) (radr 3 (Int.toNat x5) x0))) fun r1 =>
  chk (leI (0 : Int) x5) (chk (ltI x5 ((rlen x0) : Int)) (Option.bind ((Hp.st h (.p TS2) (radr 3 (Int.toNat x5) x0) r0)) fun r2 =>
  chk (leI (0 : Int) (IntKind.wrap IntKind.i64 (x5 - (1 : Int)))) (chk (ltI (IntKind.wrap IntKind.i64 (x5 - (1 : Int))) ((rlen x0) : Int)) (Option.bind ((Hp.st r2 (.p TS2) (radr 3 (Int.toNat (IntKind.wrap IntKind.i64 (x5 - (1 : Int)))) x0) r1)) fun r3 =>
  zzSort_l1 K k x0 f1 c1 x4 (IntKind.wrap IntKind.i64 (x5 - (1 : Int))) r3)))))))) := by kernel_rfl
theorem fix_1_eq (K : Nat) (x0 : TS2.den) (x1 : TS2.den) : fix_1 (K + 1) x0 x1 =
  some (ltI ((x1).2).2 ((x0).2).2) := by kernel_rfl
theorem overlap_eq (K : Nat) (x0 : TS2.den) (x1 : TS2.den) : overlap (K + 1) x0 x1 =
  br (leI (x1).1 (x0).1)
  (overlap_j0 K K (0 : Int) (x0 :: []) (0 : Int) (x1 :: []) (0 : Int) (((0 : Int), ((0 : Int), (0 : Int))) :: []) (ltI (x0).1 (IntKind.wrap IntKind.i64 ((x1).1 + ((x1).2).2))))
  (overlap_j0 K K (0 : Int) (x0 :: []) (0 : Int) (x1 :: []) (0 : Int) (((0 : Int), ((0 : Int), (0 : Int))) :: []) Bool.false) := by kernel_rfl
theorem overlap_j0_eq (K k : Nat) (i2 : Int) (x2 : List (TS2.den)) (i3 : Int) (x3 : List (TS2.den)) (i5 : Int) (x5 : List (TS2.den)) (x24 : Bool) : overlap_j0 K (k + 1) i2 x2 i3 x3 i5 x5 x24 =
  br x24
  (br (leI (((nth TS2 (List.set x3 (Int.toNat i3) (((nth TS2 x3 i3)).1, ((((nth TS2 x3 i3)).2).1, (IntKind.wrap IntKind.i64 ((((nth TS2 x3 i3)).2).2 - (IntKind.wrap IntKind.i64 ((IntKind.wrap IntKind.i64 (((nth TS2 x3 i3)).1 + (((nth TS2 x3 i3)).2).2)) - ((nth TS2 x2 i2)).1))))))) i3)).2).2 (0 : Int))
   (some ((0 : Int), (nth TS2 (List.set x5 (Int.toNat i5) (nth TS2 (List.set x3 (Int.toNat i3) (((nth TS2 x3 i3)).1, ((((nth TS2 x3 i3)).2).1, (IntKind.wrap IntKind.i64 ((((nth TS2 x3 i3)).2).2 - (IntKind.wrap IntKind.i64 ((IntKind.wrap IntKind.i64 (((nth TS2 x3 i3)).1 + (((nth TS2 x3 i3)).2).2)) - ((nth TS2 x2 i2)).1))))))) i3)) i5)))
   (overlap_j1 K k i2 x2 i3 (List.set x3 (Int.toNat i3) (((nth TS2 x3 i3)).1, ((((nth TS2 x3 i3)).2).1, (IntKind.wrap IntKind.i64 ((((nth TS2 x3 i3)).2).2 - (IntKind.wrap IntKind.i64 ((IntKind.wrap IntKind.i64 (((nth TS2 x3 i3)).1 + (((nth TS2 x3 i3)).2).2)) - ((nth TS2 x2 i2)).1))))))) i5 x5))
  (overlap_j1 K k i2 x2 i3 x3 i5 x5) := by kernel_rfl
theorem overlap_j1_eq (K k : Nat) (i2 : Int) (x2 : List (TS2.den)) (i3 : Int) (x3 : List (TS2.den)) (i5 : Int) (x5 : List (TS2.den)) : overlap_j1 K (k + 1) i2 x2 i3 x3 i5 x5 =
  br (leI ((nth TS2 x2 i2)).1 ((nth TS2 x3 i3)).1)
  (overlap_j2 K k i2 x2 i3 x3 i5 x5 (ltI ((nth TS2 x3 i3)).1 (IntKind.wrap IntKind.i64 (((nth TS2 x2 i2)).1 + (((nth TS2 x2 i2)).2).2))))
  (overlap_j2 K k i2 x2 i3 x3 i5 x5 Bool.false) := by kernel_rfl
theorem overlap_j2_eq (K k : Nat) (i2 : Int) (x2 : List (TS2.den)) (i3 : Int) (x3 : List (TS2.den)) (i5 : Int) (x5 : List (TS2.den)) (x56 : Bool) : overlap_j2 K (k + 1) i2 x2 i3 x3 i5 x5 x56 =
  br x56
  (br (leI (((nth TS2 (List.set x3 (Int.toNat i3) (((nth TS2 x3 i3)).1, ((((nth TS2 x3 i3)).2).1, (IntKind.wrap IntKind.i64 ((((nth TS2 x3 i3)).2).2 - (IntKind.wrap IntKind.i64 ((IntKind.wrap IntKind.i64 (((nth TS2 x2 i2)).1 + (((nth TS2 x2 i2)).2).2)) - ((nth TS2 x3 i3)).1))))))) i3)).2).2 (0 : Int))
   (some ((0 : Int), (nth TS2 (List.set x5 (Int.toNat i5) (nth TS2 (List.set x3 (Int.toNat i3) (((nth TS2 x3 i3)).1, ((((nth TS2 x3 i3)).2).1, (IntKind.wrap IntKind.i64 ((((nth TS2 x3 i3)).2).2 - (IntKind.wrap IntKind.i64 ((IntKind.wrap IntKind.i64 (((nth TS2 x2 i2)).1 + (((nth TS2 x2 i2)).2).2)) - ((nth TS2 x3 i3)).1))))))) i3)) i5)))
   (overlap_j3 K k i2 x2 i3 (List.set x3 (Int.toNat i3) (((nth TS2 x3 i3)).1, ((((nth TS2 x3 i3)).2).1, (IntKind.wrap IntKind.i64 ((((nth TS2 x3 i3)).2).2 - (IntKind.wrap IntKind.i64 ((IntKind.wrap IntKind.i64 (((nth TS2 x2 i2)).1 + (((nth TS2 x2 i2)).2).2)) - ((nth TS2 x3 i3)).1))))))) i5 x5 (IntKind.wrap IntKind.i64 ((IntKind.wrap IntKind.i64 (((nth TS2 x2 i2)).1 + (((nth TS2 x2 i2)).2).2)) - ((nth TS2 x3 i3)).1))))
  (overlap_j4 K k i2 x2 i3 x3 i5 x5) := by kernel_rfl
theorem overlap_j3_eq (K k : Nat) (i2 : Int) (x2 : List (TS2.den)) (i3 : Int) (x3 : List (TS2.den)) (i5 : Int) (x5 : List (TS2.den)) (x7 : Int) : overlap_j3 K (k + 1) i2 x2 i3 x3 i5 x5 x7 =
  overlap_j4 K k i2 x2 i3 (List.set (List.set x3 (Int.toNat i3) ((IntKind.wrap IntKind.i64 (((nth TS2 x3 i3)).1 + x7)), ((nth TS2 x3 i3)).2)) (Int.toNat i3) (((nth TS2 (List.set x3 (Int.toNat i3) ((IntKind.wrap IntKind.i64 (((nth TS2 x3 i3)).1 + x7)), ((nth TS2 x3 i3)).2)) i3)).1, ((IntKind.wrap IntKind.i64 ((((nth TS2 (List.set x3 (Int.toNat i3) ((IntKind.wrap IntKind.i64 (((nth TS2 x3 i3)).1 + x7)), ((nth TS2 x3 i3)).2)) i3)).2).1 + x7)), (((nth TS2 (List.set x3 (Int.toNat i3) ((IntKind.wrap IntKind.i64 (((nth TS2 x3 i3)).1 + x7)), ((nth TS2 x3 i3)).2)) i3)).2).2))) i5 x5 := by kernel_rfl
theorem overlap_j4_eq (K k : Nat) (i2 : Int) (x2 : List (TS2.den)) (i3 : Int) (x3 : List (TS2.den)) (i5 : Int) (x5 : List (TS2.den)) : overlap_j4 K (k + 1) i2 x2 i3 x3 i5 x5 =
  br (leI (((nth TS2 x3 i3)).2).1 (((nth TS2 x2 i2)).2).1)
  (overlap_j5 K k i2 x2 i3 x3 i5 x5 (ltI (((nth TS2 x2 i2)).2).1 (IntKind.wrap IntKind.i64 ((((nth TS2 x3 i3)).2).1 + (((nth TS2 x3 i3)).2).2))))
  (overlap_j5 K k i2 x2 i3 x3 i5 x5 Bool.false) := by kernel_rfl
theorem overlap_j5_eq (K k : Nat) (i2 : Int) (x2 : List (TS2.den)) (i3 : Int) (x3 : List (TS2.den)) (i5 : Int) (x5 : List (TS2.den)) (x98 : Bool) : overlap_j5 K (k + 1) i2 x2 i3 x3 i5 x5 x98 =
  br x98
  (br (leI (((nth TS2 (List.set x3 (Int.toNat i3) (((nth TS2 x3 i3)).1, ((((nth TS2 x3 i3)).2).1, (IntKind.wrap IntKind.i64 ((((nth TS2 x3 i3)).2).2 - (IntKind.wrap IntKind.i64 ((IntKind.wrap IntKind.i64 ((((nth TS2 x3 i3)).2).1 + (((nth TS2 x3 i3)).2).2)) - (((nth TS2 x2 i2)).2).1))))))) i3)).2).2 (0 : Int))
   (some ((0 : Int), (nth TS2 (List.set x5 (Int.toNat i5) (nth TS2 (List.set x3 (Int.toNat i3) (((nth TS2 x3 i3)).1, ((((nth TS2 x3 i3)).2).1, (IntKind.wrap IntKind.i64 ((((nth TS2 x3 i3)).2).2 - (IntKind.wrap IntKind.i64 ((IntKind.wrap IntKind.i64 ((((nth TS2 x3 i3)).2).1 + (((nth TS2 x3 i3)).2).2)) - (((nth TS2 x2 i2)).2).1))))))) i3)) i5)))
   (overlap_j6 K k i2 x2 i3 (List.set x3 (Int.toNat i3) (((nth TS2 x3 i3)).1, ((((nth TS2 x3 i3)).2).1, (IntKind.wrap IntKind.i64 ((((nth TS2 x3 i3)).2).2 - (IntKind.wrap IntKind.i64 ((IntKind.wrap IntKind.i64 ((((nth TS2 x3 i3)).2).1 + (((nth TS2 x3 i3)).2).2)) - (((nth TS2 x2 i2)).2).1))))))) i5 x5))
  (overlap_j6 K k i2 x2 i3 x3 i5 x5) := by kernel_rfl
theorem overlap_j6_eq (K k : Nat) (i2 : Int) (x2 : List (TS2.den)) (i3 : Int) (x3 : List (TS2.den)) (i5 : Int) (x5 : List (TS2.den)) : overlap_j6 K (k + 1) i2 x2 i3 x3 i5 x5 =
  br (leI (((nth TS2 x2 i2)).2).1 (((nth TS2 x3 i3)).2).1)
  (overlap_j7 K k i2 x2 i3 x3 i5 x5 (ltI (((nth TS2 x3 i3)).2).1 (IntKind.wrap IntKind.i64 ((((nth TS2 x2 i2)).2).1 + (((nth TS2 x2 i2)).2).2))))
  (overlap_j7 K k i2 x2 i3 x3 i5 x5 Bool.false) := by kernel_rfl
theorem overlap_j7_eq (K k : Nat) (i2 : Int) (x2 : List (TS2.den)) (i3 : Int) (x3 : List (TS2.den)) (i5 : Int) (x5 : List (TS2.den)) (x130 : Bool) : overlap_j7 K (k + 1) i2 x2 i3 x3 i5 x5 x130 =
  br x130
  (br (leI (((nth TS2 (List.set x3 (Int.toNat i3) (((nth TS2 x3 i3)).1, ((((nth TS2 x3 i3)).2).1, (IntKind.wrap IntKind.i64 ((((nth TS2 x3 i3)).2).2 - (IntKind.wrap IntKind.i64 ((IntKind.wrap IntKind.i64 ((((nth TS2 x2 i2)).2).1 + (((nth TS2 x2 i2)).2).2)) - (((nth TS2 x3 i3)).2).1))))))) i3)).2).2 (0 : Int))
   (some ((0 : Int), (nth TS2 (List.set x5 (Int.toNat i5) (nth TS2 (List.set x3 (Int.toNat i3) (((nth TS2 x3 i3)).1, ((((nth TS2 x3 i3)).2).1, (IntKind.wrap IntKind.i64 ((((nth TS2 x3 i3)).2).2 - (IntKind.wrap IntKind.i64 ((IntKind.wrap IntKind.i64 ((((nth TS2 x2 i2)).2).1 + (((nth TS2 x2 i2)).2).2)) - (((nth TS2 x3 i3)).2).1))))))) i3)) i5)))
   (overlap_j8 K k i2 x2 i3 (List.set x3 (Int.toNat i3) (((nth TS2 x3 i3)).1, ((((nth TS2 x3 i3)).2).1, (IntKind.wrap IntKind.i64 ((((nth TS2 x3 i3)).2).2 - (IntKind.wrap IntKind.i64 ((IntKind.wrap IntKind.i64 ((((nth TS2 x2 i2)).2).1 + (((nth TS2 x2 i2)).2).2)) - (((nth TS2 x3 i3)).2).1))))))) i5 x5 (IntKind.wrap IntKind.i64 ((IntKind.wrap IntKind.i64 ((((nth TS2 x2 i2)).2).1 + (((nth TS2 x2 i2)).2).2)) - (((nth TS2 x3 i3)).2).1))))
  (overlap_j9 K k i2 x2 i3 x3 i5 x5) := by kernel_rfl
theorem overlap_j8_eq (K k : Nat) (i2 : Int) (x2 : List (TS2.den)) (i3 : Int) (x3 : List (TS2.den)) (i5 : Int) (x5 : List (TS2.den)) (x9 : Int) : overlap_j8 K (k + 1) i2 x2 i3 x3 i5 x5 x9 =
  overlap_j9 K k i2 x2 i3 (List.set (List.set x3 (Int.toNat i3) ((IntKind.wrap IntKind.i64 (((nth TS2 x3 i3)).1 + x9)), ((nth TS2 x3 i3)).2)) (Int.toNat i3) (((nth TS2 (List.set x3 (Int.toNat i3) ((IntKind.wrap IntKind.i64 (((nth TS2 x3 i3)).1 + x9)), ((nth TS2 x3 i3)).2)) i3)).1, ((IntKind.wrap IntKind.i64 ((((nth TS2 (List.set x3 (Int.toNat i3) ((IntKind.wrap IntKind.i64 (((nth TS2 x3 i3)).1 + x9)), ((nth TS2 x3 i3)).2)) i3)).2).1 + x9)), (((nth TS2 (List.set x3 (Int.toNat i3) ((IntKind.wrap IntKind.i64 (((nth TS2 x3 i3)).1 + x9)), ((nth TS2 x3 i3)).2)) i3)).2).2))) i5 x5 := by kernel_rfl
theorem overlap_j9_eq (K k : Nat) (i2 : Int) (x2 : List (TS2.den)) (i3 : Int) (x3 : List (TS2.den)) (i5 : Int) (x5 : List (TS2.den)) : overlap_j9 K (k + 1) i2 x2 i3 x3 i5 x5 =
  br (leI (IntKind.wrap IntKind.i64 (((nth TS2 x3 i3)).1 + (((nth TS2 x3 i3)).2).2)) ((nth TS2 x2 i2)).1)
  (overlap_j10 K k i2 x2 i3 x3 i5 x5 (leI (IntKind.wrap IntKind.i64 ((((nth TS2 x3 i3)).2).1 + (((nth TS2 x3 i3)).2).2)) (((nth TS2 x2 i2)).2).1))
  (overlap_j10 K k i2 x2 i3 x3 i5 x5 Bool.false) := by kernel_rfl
theorem overlap_j10_eq (K k : Nat) (i2 : Int) (x2 : List (TS2.den)) (i3 : Int) (x3 : List (TS2.den)) (i5 : Int) (x5 : List (TS2.den)) (x175 : Bool) : overlap_j10 K (k + 1) i2 x2 i3 x3 i5 x5 x175 =
  br x175
  (some ((1 : Int), (nth TS2 (List.set x5 (Int.toNat i5) (nth TS2 x3 i3)) i5)))
  (overlap_j11 K k i2 x2 i3 x3 i5 x5) := by kernel_rfl
theorem overlap_j11_eq (K k : Nat) (i2 : Int) (x2 : List (TS2.den)) (i3 : Int) (x3 : List (TS2.den)) (i5 : Int) (x5 : List (TS2.den)) : overlap_j11 K (k + 1) i2 x2 i3 x3 i5 x5 =
  br (leI (IntKind.wrap IntKind.i64 (((nth TS2 x2 i2)).1 + (((nth TS2 x2 i2)).2).2)) ((nth TS2 x3 i3)).1)
  (overlap_j12 K k i3 x3 i5 x5 (leI (IntKind.wrap IntKind.i64 ((((nth TS2 x2 i2)).2).1 + (((nth TS2 x2 i2)).2).2)) (((nth TS2 x3 i3)).2).1))
  (overlap_j12 K k i3 x3 i5 x5 Bool.false) := by kernel_rfl
theorem overlap_j12_eq (K k : Nat) (i3 : Int) (x3 : List (TS2.den)) (i5 : Int) (x5 : List (TS2.den)) (x194 : Bool) : overlap_j12 K (k + 1) i3 x3 i5 x5 x194 =
  br x194
  (some ((2 : Int), (nth TS2 (List.set x5 (Int.toNat i5) (nth TS2 x3 i3)) i5)))
  (some ((3 : Int), (nth TS2 (List.set x5 (Int.toNat i5) (nth TS2 x3 i3)) i5))) := by kernel_rfl
theorem sort_1_eq (K : Nat) (x0 : TS2.den) (x1 : TS2.den) : sort_1 (K + 1) x0 x1 =
  br (Bool.not (eqI (x0).1 (x1).1))
  (some (ltI (x0).1 (x1).1))
  (sort_1_j0 K K (0 : Int) (x0 :: []) (0 : Int) (x1 :: [])) := by kernel_rfl
theorem sort_1_j0_eq (K k : Nat) (i2 : Int) (x2 : List (TS2.den)) (i3 : Int) (x3 : List (TS2.den)) : sort_1_j0 K (k + 1) i2 x2 i3 x3 =
  some (ltI (((nth TS2 x3 i3)).2).2 (((nth TS2 x2 i2)).2).2) := by kernel_rfl
theorem fdone_eq (K : Nat) (x0 : Hp) (x1 : Pf) (x2 : Int) (x3 : Int) : fdone (K + 1) x0 x1 x2 x3 =
  chk (Bool.not (pnil x1)) (chk (Bool.not (pnil x1)) (Option.bind (get K x0 (padd 1 x1) x2 x3) fun r0 =>
  chk (Bool.not (pnil x1)) (chk (Bool.not (pnil x1)) (Option.bind ((Hp.ld (r0).1 (.p (.int (.i64))) (padd 6 x1))) fun r1 =>
  br (eqI (r0).2 r1)
  (chk (Bool.not (pnil x1)) (chk (Bool.not (pnil x1)) (Option.bind ((Hp.ld (r0).1 (.p (.int (.i64))) (padd 7 x1))) fun r2 =>
   fdone_j0 K K x1 x2 x3 (eqI (IntKind.wrap IntKind.i64 ((r0).2 - x3)) r2) (r0).1)))
  (fdone_j0 K K x1 x2 x3 Bool.false (r0).1))))) := by kernel_rfl
theorem fdone_j0_eq (K k : Nat) (x0 : Pf) (x1 : Int) (x2 : Int) (x32 : Bool) (h : Hp) : fdone_j0 K (k + 1) x0 x1 x2 x32 h =
  br x32
  (Option.bind (forwardlcs K h x0 x1 x2) fun r0 =>
   some ((r0).1, (Bool.true, (r0).2)))
  (some (h, (Bool.false, Rf.nil))) := by kernel_rfl
theorem lcs_linesSeqs_commonPrefixLen_eq (K : Nat) (x0 : Hp) (x1 : (Rf × Rf)) (x2 : Int) (x3 : Int) (x4 : Int) (x5 : Int) : lcs_linesSeqs_commonPrefixLen (K + 1) x0 x1 x2 x3 x4 x5 =
  chk (Bool.not (pnil (Pf.at (x0).1 0))) (Option.bind ((Hp.ld (Hp.box x0 111 (.pair (.sr) (.one (.sr))) x1) (.sr) (padd 0 (Pf.at (x0).1 0)))) fun r0 =>
  chk (leI (0 : Int) x2) (chk (leI x2 x3) (chk (leI x3 ((rlen r0) : Int)) (chk (Bool.not (pnil (Pf.at (x0).1 0))) (Option.bind ((Hp.ld (Hp.box x0 111 (.pair (.sr) (.one (.sr))) x1) (.sr) (padd 1 (Pf.at (x0).1 0)))) fun r1 =>
  chk (leI (0 : Int) x4) (chk (leI x4 x5) (chk (leI x5 ((rlen r1) : Int)) (Option.bind ((Hp.rd (Hp.box x0 111 (.pair (.sr) (.one (.sr))) x1) (.str) (rcut 1 (Int.toNat x2) (Int.toNat x3) r0))) fun r2 =>
  Option.bind ((Hp.rd (Hp.box x0 111 (.pair (.sr) (.one (.sr))) x1) (.str) (rcut 1 (Int.toNat x4) (Int.toNat x5) r1))) fun r3 =>
  Option.bind (commonPrefixLen_string_ K r2 r3) fun r4 =>
  some ((Hp.box x0 111 (.pair (.sr) (.one (.sr))) x1), r4))))))))) := by kernel_rfl
theorem lcs_linesSeqs_commonSuffixLen_eq (K : Nat) (x0 : Hp) (x1 : (Rf × Rf)) (x2 : Int) (x3 : Int) (x4 : Int) (x5 : Int) : lcs_linesSeqs_commonSuffixLen (K + 1) x0 x1 x2 x3 x4 x5 =
  chk (Bool.not (pnil (Pf.at (x0).1 0))) (Option.bind ((Hp.ld (Hp.box x0 111 (.pair (.sr) (.one (.sr))) x1) (.sr) (padd 0 (Pf.at (x0).1 0)))) fun r0 =>
  chk (leI (0 : Int) x2) (chk (leI x2 x3) (chk (leI x3 ((rlen r0) : Int)) (chk (Bool.not (pnil (Pf.at (x0).1 0))) (Option.bind ((Hp.ld (Hp.box x0 111 (.pair (.sr) (.one (.sr))) x1) (.sr) (padd 1 (Pf.at (x0).1 0)))) fun r1 =>
  chk (leI (0 : Int) x4) (chk (leI x4 x5) (chk (leI x5 ((rlen r1) : Int)) (Option.bind ((Hp.rd (Hp.box x0 111 (.pair (.sr) (.one (.sr))) x1) (.str) (rcut 1 (Int.toNat x2) (Int.toNat x3) r0))) fun r2 =>
  Option.bind ((Hp.rd (Hp.box x0 111 (.pair (.sr) (.one (.sr))) x1) (.str) (rcut 1 (Int.toNat x4) (Int.toNat x5) r1))) fun r3 =>
  Option.bind (commonSuffixLen_string_ K r2 r3) fun r4 =>
  some ((Hp.box x0 111 (.pair (.sr) (.one (.sr))) x1), r4))))))))) := by kernel_rfl
theorem lcs_linesSeqs_lengths_eq (K : Nat) (x0 : Hp) (x1 : (Rf × Rf)) : lcs_linesSeqs_lengths (K + 1) x0 x1 =
  chk (Bool.not (pnil (Pf.at (x0).1 0))) (Option.bind ((Hp.ld (Hp.box x0 111 (.pair (.sr) (.one (.sr))) x1) (.sr) (padd 0 (Pf.at (x0).1 0)))) fun r0 =>
  chk (Bool.not (pnil (Pf.at (x0).1 0))) (Option.bind ((Hp.ld (Hp.box x0 111 (.pair (.sr) (.one (.sr))) x1) (.sr) (padd 1 (Pf.at (x0).1 0)))) fun r1 =>
  some ((Hp.box x0 111 (.pair (.sr) (.one (.sr))) x1), (((rlen r0) : Int), ((rlen r1) : Int))))) := by kernel_rfl
theorem commonPrefixLen_string__eq (K : Nat) (x0 : List ByteArray) (x1 : List ByteArray) : commonPrefixLen_string_ (K + 1) x0 x1 =
  commonPrefixLen_string__l0 K K x0 x1 (cond (ltI ((List.length x1) : Int) ((List.length x0) : Int)) ((List.length x1) : Int) ((List.length x0) : Int)) (0 : Int) := by kernel_rfl
theorem commonPrefixLen_string__l0_eq (K k : Nat) (x0 : List (ByteArray)) (x1 : List (ByteArray)) (x5 : Int) (x6 : Int) : commonPrefixLen_string__l0 K (k + 1) x0 x1 x5 x6 =
  br (ltI x6 x5)
  (chk (leI (0 : Int) x6) (chk (ltI x6 ((List.length x0) : Int)) (chk (leI (0 : Int) x6) (chk (ltI x6 ((List.length x1) : Int)) (br (eqS (nth (.str) x0 x6) (nth (.str) x1 x6))
   (commonPrefixLen_string__j0 K k x0 x1 x5 x6)
   (some x6))))))
  (some x6) := by kernel_rfl
theorem commonPrefixLen_string__j0_eq (K k : Nat) (x0 : List (ByteArray)) (x1 : List (ByteArray)) (x5 : Int) (x6 : Int) : commonPrefixLen_string__j0 K (k + 1) x0 x1 x5 x6 =
  commonPrefixLen_string__l0 K k x0 x1 x5 (IntKind.wrap IntKind.i64 (x6 + (1 : Int))) := by kernel_rfl
theorem commonSuffixLen_string__eq (K : Nat) (x0 : List ByteArray) (x1 : List ByteArray) : commonSuffixLen_string_ (K + 1) x0 x1 =
  commonSuffixLen_string__l0 K K x0 x1 (cond (ltI ((List.length x1) : Int) ((List.length x0) : Int)) ((List.length x1) : Int) ((List.length x0) : Int)) (0 : Int) := by kernel_rfl
theorem commonSuffixLen_string__l0_eq (K k : Nat) (x0 : List (ByteArray)) (x1 : List (ByteArray)) (x5 : Int) (x6 : Int) : commonSuffixLen_string__l0 K (k + 1) x0 x1 x5 x6 =
  br (ltI x6 x5)
  (chk (leI (0 : Int) (IntKind.wrap IntKind.i64 ((IntKind.wrap IntKind.i64 (((List.length x0) : Int) - (1 : Int))) - x6))) (chk (ltI (IntKind.wrap IntKind.i64 ((IntKind.wrap IntKind.i64 (((List.length x0) : Int) - (1 : Int))) - x6)) ((List.length x0) : Int)) (chk (leI (0 : Int) (IntKind.wrap IntKind.i64 ((IntKind.wrap IntKind.i64 (((List.length x1) : Int) - (1 : Int))) - x6))) (chk (ltI (IntKind.wrap IntKind.i64 ((IntKind.wrap IntKind.i64 (((List.length x1) : Int) - (1 : Int))) - x6)) ((List.length x1) : Int)) (br (eqS (nth (.str) x0 (IntKind.wrap IntKind.i64 ((IntKind.wrap IntKind.i64 (((List.length x0) : Int) - (1 : Int))) - x6))) (nth (.str) x1 (IntKind.wrap IntKind.i64 ((IntKind.wrap IntKind.i64 (((List.length x1) : Int) - (1 : Int))) - x6))))
   (commonSuffixLen_string__j0 K k x0 x1 x5 x6)
   (some x6))))))
  (some x6) := by kernel_rfl
theorem commonSuffixLen_string__j0_eq (K k : Nat) (x0 : List (ByteArray)) (x1 : List (ByteArray)) (x5 : Int) (x6 : Int) : commonSuffixLen_string__j0 K (k + 1) x0 x1 x5 x6 =
  commonSuffixLen_string__l0 K k x0 x1 x5 (IntKind.wrap IntKind.i64 (x6 + (1 : Int))) := by kernel_rfl
end Go.Proofs.Ytfglahmbnnkijaa.E
