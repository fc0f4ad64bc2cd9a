import Derived.Test.YtmlfecgppnffgaaDoorEvT
/- Written by a program of this session (wip/tools/mkev.py): what the functions' places evaluate to. Not trusted: Lean checks it. -/
namespace Go.Proofs.YtmlfecgppnffgaaDoor.E
open Go.Ev
theorem diffBisect_l0_eq (K k : Nat) (i0 : Int) (x0 : List TS1.den) (x1 : List Int) (x2 : List Int) (x7 : Int) (x8 : Int) (x9 : Int) (x10 : Int) (x11 : Int) (x12 : List Int) (x13 : List Int) (x52 : Int) (x53 : Int) : diffBisect_l0 K (k + 1) i0 x0 x1 x2 x7 x8 x9 x10 x11 x12 x13 x52 x53 =
  br (ltI x53 x52)
  (diffBisect_j0 K k i0 x0 x1 x2 x7 x8 x9 x10 x11 x12 x13 x52 x53)
  (diffBisect_j1 K k i0 x0 x1 x2 x7 x8 x9 x10 x11 x12 x13) := by kernel_rfl
theorem diffBisect_j0_eq (K k : Nat) (i0 : Int) (x0 : List TS1.den) (x1 : List Int) (x2 : List Int) (x7 : Int) (x8 : Int) (x9 : Int) (x10 : Int) (x11 : Int) (x12 : List Int) (x13 : List Int) (x52 : Int) (x53 : Int) : diffBisect_j0 K (k + 1) i0 x0 x1 x2 x7 x8 x9 x10 x11 x12 x13 x52 x53 =
  chk (leI 0 x53) (chk (ltI x53 (List.length x12 : Int)) (chk (leI 0 x53) (chk (ltI x53 (List.length x13 : Int)) (diffBisect_l0 K k i0 x0 x1 x2 x7 x8 x9 x10 x11 (List.set x12 (Int.toNat x53) (-1)) (List.set x13 (Int.toNat x53) (-1)) x52 (IntKind.i64.wrap (x53 + 1)))))) := by kernel_rfl
theorem diffBisect_j1_eq (K k : Nat) (i0 : Int) (x0 : List TS1.den) (x1 : List Int) (x2 : List Int) (x7 : Int) (x8 : Int) (x9 : Int) (x10 : Int) (x11 : Int) (x12 : List Int) (x13 : List Int) : diffBisect_j1 K (k + 1) i0 x0 x1 x2 x7 x8 x9 x10 x11 x12 x13 =
  chk (leI 0 (IntKind.i64.wrap (x10 + 1))) (chk (ltI (IntKind.i64.wrap (x10 + 1)) (List.length x12 : Int)) (chk (leI 0 (IntKind.i64.wrap (x10 + 1))) (chk (ltI (IntKind.i64.wrap (x10 + 1)) (List.length x13 : Int)) (chk (!eqI 2 0) (diffBisect_l1 K k i0 x0 x1 x2 x7 x8 x9 x10 x11 (List.set x12 (Int.toNat (IntKind.i64.wrap (x10 + 1))) 0) (List.set x13 (Int.toNat (IntKind.i64.wrap (x10 + 1))) 0) (IntKind.i64.wrap (x7 - x8)) (!eqI (Int.tmod (IntKind.i64.wrap (x7 - x8)) 2) 0) 0 0 0 0 0))))) := by kernel_rfl
theorem diffBisect_l1_eq (K k : Nat) (i0 : Int) (x0 : List TS1.den) (x1 : List Int) (x2 : List Int) (x7 : Int) (x8 : Int) (x9 : Int) (x10 : Int) (x11 : Int) (x12 : List Int) (x13 : List Int) (x15 : Int) (x16 : Bool) (x17 : Int) (x18 : Int) (x19 : Int) (x20 : Int) (x21 : Int) : diffBisect_l1 K (k + 1) i0 x0 x1 x2 x7 x8 x9 x10 x11 x12 x13 x15 x16 x17 x18 x19 x20 x21 =
  br (ltI x21 x9)
  (diffBisect_j2 K k i0 x0 x1 x2 x7 x8 x9 x10 x11 x12 x13 x15 x16 x17 x18 x19 x20 x21)
  (diffBisect_j3 K k x1 x2) := by kernel_rfl
theorem diffBisect_j2_eq (K k : Nat) (i0 : Int) (x0 : List TS1.den) (x1 : List Int) (x2 : List Int) (x7 : Int) (x8 : Int) (x9 : Int) (x10 : Int) (x11 : Int) (x12 : List Int) (x13 : List Int) (x15 : Int) (x16 : Bool) (x17 : Int) (x18 : Int) (x19 : Int) (x20 : Int) (x21 : Int) : diffBisect_j2 K (k + 1) i0 x0 x1 x2 x7 x8 x9 x10 x11 x12 x13 x15 x16 x17 x18 x19 x20 x21 =
  diffBisect_l2 K k i0 x0 x1 x2 x7 x8 x9 x10 x11 x12 x13 x15 x16 x17 x18 x19 x20 x21 (IntKind.i64.wrap ((IntKind.i64.wrap (0 - x21)) + x17)) := by kernel_rfl
theorem diffBisect_j3_eq (K k : Nat) (x1 : List Int) (x2 : List Int) : diffBisect_j3 K (k + 1) x1 x2 =
  some ([((-1), (strOfRunes x1)), (1, (strOfRunes x2))] : List TS2.den) := by kernel_rfl
theorem diffBisect_l2_eq (K k : Nat) (i0 : Int) (x0 : List TS1.den) (x1 : List Int) (x2 : List Int) (x7 : Int) (x8 : Int) (x9 : Int) (x10 : Int) (x11 : Int) (x12 : List Int) (x13 : List Int) (x15 : Int) (x16 : Bool) (x17 : Int) (x18 : Int) (x19 : Int) (x20 : Int) (x21 : Int) (x22 : Int) : diffBisect_l2 K (k + 1) i0 x0 x1 x2 x7 x8 x9 x10 x11 x12 x13 x15 x16 x17 x18 x19 x20 x21 x22 =
  br (leI x22 (IntKind.i64.wrap (x21 - x18)))
  (diffBisect_j4 K k i0 x0 x1 x2 x7 x8 x9 x10 x11 x12 x13 x15 x16 x17 x18 x19 x20 x21 x22)
  (diffBisect_j5 K k i0 x0 x1 x2 x7 x8 x9 x10 x11 x12 x13 x15 x16 x17 x18 x19 x20 x21) := by kernel_rfl
theorem diffBisect_j4_eq (K k : Nat) (i0 : Int) (x0 : List TS1.den) (x1 : List Int) (x2 : List Int) (x7 : Int) (x8 : Int) (x9 : Int) (x10 : Int) (x11 : Int) (x12 : List Int) (x13 : List Int) (x15 : Int) (x16 : Bool) (x17 : Int) (x18 : Int) (x19 : Int) (x20 : Int) (x21 : Int) (x22 : Int) : diffBisect_j4 K (k + 1) i0 x0 x1 x2 x7 x8 x9 x10 x11 x12 x13 x15 x16 x17 x18 x19 x20 x21 x22 =
  br (eqI x22 (IntKind.i64.wrap (0 - x21)))
  (diffBisect_j6 K k i0 x0 x1 x2 x7 x8 x9 x10 x11 x12 x13 x15 x16 x17 x18 x19 x20 x21 x22 (IntKind.i64.wrap (x10 + x22)) true)
  (br (!eqI x22 x21)
   (chk (leI 0 (IntKind.i64.wrap ((IntKind.i64.wrap (x10 + x22)) - 1))) (chk (ltI (IntKind.i64.wrap ((IntKind.i64.wrap (x10 + x22)) - 1)) (List.length x12 : Int)) (chk (leI 0 (IntKind.i64.wrap ((IntKind.i64.wrap (x10 + x22)) + 1))) (chk (ltI (IntKind.i64.wrap ((IntKind.i64.wrap (x10 + x22)) + 1)) (List.length x12 : Int)) (diffBisect_j6 K k i0 x0 x1 x2 x7 x8 x9 x10 x11 x12 x13 x15 x16 x17 x18 x19 x20 x21 x22 (IntKind.i64.wrap (x10 + x22)) (ltI (nth (.int .i64) x12 (IntKind.i64.wrap ((IntKind.i64.wrap (x10 + x22)) - 1))) (nth (.int .i64) x12 (IntKind.i64.wrap ((IntKind.i64.wrap (x10 + x22)) + 1)))))))))
   (diffBisect_j6 K k i0 x0 x1 x2 x7 x8 x9 x10 x11 x12 x13 x15 x16 x17 x18 x19 x20 x21 x22 (IntKind.i64.wrap (x10 + x22)) false)) := by kernel_rfl
theorem diffBisect_j5_eq (K k : Nat) (i0 : Int) (x0 : List TS1.den) (x1 : List Int) (x2 : List Int) (x7 : Int) (x8 : Int) (x9 : Int) (x10 : Int) (x11 : Int) (x12 : List Int) (x13 : List Int) (x15 : Int) (x16 : Bool) (x17 : Int) (x18 : Int) (x19 : Int) (x20 : Int) (x21 : Int) : diffBisect_j5 K (k + 1) i0 x0 x1 x2 x7 x8 x9 x10 x11 x12 x13 x15 x16 x17 x18 x19 x20 x21 =
  diffBisect_l3 K k i0 x0 x1 x2 x7 x8 x9 x10 x11 x12 x13 x15 x16 x17 x18 x19 x20 x21 (IntKind.i64.wrap ((IntKind.i64.wrap (0 - x21)) + x19)) := by kernel_rfl
theorem diffBisect_j6_eq (K k : Nat) (i0 : Int) (x0 : List TS1.den) (x1 : List Int) (x2 : List Int) (x7 : Int) (x8 : Int) (x9 : Int) (x10 : Int) (x11 : Int) (x12 : List Int) (x13 : List Int) (x15 : Int) (x16 : Bool) (x17 : Int) (x18 : Int) (x19 : Int) (x20 : Int) (x21 : Int) (x22 : Int) (x23 : Int) (x117 : Bool) : diffBisect_j6 K (k + 1) i0 x0 x1 x2 x7 x8 x9 x10 x11 x12 x13 x15 x16 x17 x18 x19 x20 x21 x22 x23 x117 =
  br x117
  (chk (leI 0 (IntKind.i64.wrap (x23 + 1))) (chk (ltI (IntKind.i64.wrap (x23 + 1)) (List.length x12 : Int)) (diffBisect_j7 K k i0 x0 x1 x2 x7 x8 x9 x10 x11 x12 x13 x15 x16 x17 x18 x19 x20 x21 x22 x23 (nth (.int .i64) x12 (IntKind.i64.wrap (x23 + 1))))))
  (chk (leI 0 (IntKind.i64.wrap (x23 - 1))) (chk (ltI (IntKind.i64.wrap (x23 - 1)) (List.length x12 : Int)) (diffBisect_j7 K k i0 x0 x1 x2 x7 x8 x9 x10 x11 x12 x13 x15 x16 x17 x18 x19 x20 x21 x22 x23 (IntKind.i64.wrap ((nth (.int .i64) x12 (IntKind.i64.wrap (x23 - 1))) + 1))))) := by kernel_rfl
theorem diffBisect_l3_eq (K k : Nat) (i0 : Int) (x0 : List TS1.den) (x1 : List Int) (x2 : List Int) (x7 : Int) (x8 : Int) (x9 : Int) (x10 : Int) (x11 : Int) (x12 : List Int) (x13 : List Int) (x15 : Int) (x16 : Bool) (x17 : Int) (x18 : Int) (x19 : Int) (x20 : Int) (x21 : Int) (x28 : Int) : diffBisect_l3 K (k + 1) i0 x0 x1 x2 x7 x8 x9 x10 x11 x12 x13 x15 x16 x17 x18 x19 x20 x21 x28 =
  br (leI x28 (IntKind.i64.wrap (x21 - x20)))
  (diffBisect_j8 K k i0 x0 x1 x2 x7 x8 x9 x10 x11 x12 x13 x15 x16 x17 x18 x19 x20 x21 x28)
  (diffBisect_l1 K k i0 x0 x1 x2 x7 x8 x9 x10 x11 x12 x13 x15 x16 x17 x18 x19 x20 (IntKind.i64.wrap (x21 + 1))) := by kernel_rfl
theorem diffBisect_j7_eq (K k : Nat) (i0 : Int) (x0 : List TS1.den) (x1 : List Int) (x2 : List Int) (x7 : Int) (x8 : Int) (x9 : Int) (x10 : Int) (x11 : Int) (x12 : List Int) (x13 : List Int) (x15 : Int) (x16 : Bool) (x17 : Int) (x18 : Int) (x19 : Int) (x20 : Int) (x21 : Int) (x22 : Int) (x23 : Int) (x24 : Int) : diffBisect_j7 K (k + 1) i0 x0 x1 x2 x7 x8 x9 x10 x11 x12 x13 x15 x16 x17 x18 x19 x20 x21 x22 x23 x24 =
  diffBisect_l4 K k i0 x0 x1 x2 x7 x8 x9 x10 x11 x12 x13 x15 x16 x17 x18 x19 x20 x21 x22 x23 x24 (IntKind.i64.wrap (x24 - x22)) := by kernel_rfl
theorem diffBisect_j8_eq (K k : Nat) (i0 : Int) (x0 : List TS1.den) (x1 : List Int) (x2 : List Int) (x7 : Int) (x8 : Int) (x9 : Int) (x10 : Int) (x11 : Int) (x12 : List Int) (x13 : List Int) (x15 : Int) (x16 : Bool) (x17 : Int) (x18 : Int) (x19 : Int) (x20 : Int) (x21 : Int) (x28 : Int) : diffBisect_j8 K (k + 1) i0 x0 x1 x2 x7 x8 x9 x10 x11 x12 x13 x15 x16 x17 x18 x19 x20 x21 x28 =
  br (eqI x28 (IntKind.i64.wrap (0 - x21)))
  (diffBisect_j9 K k i0 x0 x1 x2 x7 x8 x9 x10 x11 x12 x13 x15 x16 x17 x18 x19 x20 x21 x28 (IntKind.i64.wrap (x10 + x28)) true)
  (br (!eqI x28 x21)
   (chk (leI 0 (IntKind.i64.wrap ((IntKind.i64.wrap (x10 + x28)) - 1))) (chk (ltI (IntKind.i64.wrap ((IntKind.i64.wrap (x10 + x28)) - 1)) (List.length x13 : Int)) (chk (leI 0 (IntKind.i64.wrap ((IntKind.i64.wrap (x10 + x28)) + 1))) (chk (ltI (IntKind.i64.wrap ((IntKind.i64.wrap (x10 + x28)) + 1)) (List.length x13 : Int)) (diffBisect_j9 K k i0 x0 x1 x2 x7 x8 x9 x10 x11 x12 x13 x15 x16 x17 x18 x19 x20 x21 x28 (IntKind.i64.wrap (x10 + x28)) (ltI (nth (.int .i64) x13 (IntKind.i64.wrap ((IntKind.i64.wrap (x10 + x28)) - 1))) (nth (.int .i64) x13 (IntKind.i64.wrap ((IntKind.i64.wrap (x10 + x28)) + 1)))))))))
   (diffBisect_j9 K k i0 x0 x1 x2 x7 x8 x9 x10 x11 x12 x13 x15 x16 x17 x18 x19 x20 x21 x28 (IntKind.i64.wrap (x10 + x28)) false)) := by kernel_rfl
theorem diffBisect_l4_eq (K k : Nat) (i0 : Int) (x0 : List TS1.den) (x1 : List Int) (x2 : List Int) (x7 : Int) (x8 : Int) (x9 : Int) (x10 : Int) (x11 : Int) (x12 : List Int) (x13 : List Int) (x15 : Int) (x16 : Bool) (x17 : Int) (x18 : Int) (x19 : Int) (x20 : Int) (x21 : Int) (x22 : Int) (x23 : Int) (x24 : Int) (x25 : Int) : diffBisect_l4 K (k + 1) i0 x0 x1 x2 x7 x8 x9 x10 x11 x12 x13 x15 x16 x17 x18 x19 x20 x21 x22 x23 x24 x25 =
  br (ltI x24 x7)
  (br (ltI x25 x8)
   (diffBisect_j10 K k i0 x0 x1 x2 x7 x8 x9 x10 x11 x12 x13 x15 x16 x17 x18 x19 x20 x21 x22 x23 x24 x25)
   (diffBisect_j11 K k i0 x0 x1 x2 x7 x8 x9 x10 x11 x12 x13 x15 x16 x17 x18 x19 x20 x21 x22 x23 x24 x25))
  (diffBisect_j11 K k i0 x0 x1 x2 x7 x8 x9 x10 x11 x12 x13 x15 x16 x17 x18 x19 x20 x21 x22 x23 x24 x25) := by kernel_rfl
theorem diffBisect_j9_eq (K k : Nat) (i0 : Int) (x0 : List TS1.den) (x1 : List Int) (x2 : List Int) (x7 : Int) (x8 : Int) (x9 : Int) (x10 : Int) (x11 : Int) (x12 : List Int) (x13 : List Int) (x15 : Int) (x16 : Bool) (x17 : Int) (x18 : Int) (x19 : Int) (x20 : Int) (x21 : Int) (x28 : Int) (x29 : Int) (x237 : Bool) : diffBisect_j9 K (k + 1) i0 x0 x1 x2 x7 x8 x9 x10 x11 x12 x13 x15 x16 x17 x18 x19 x20 x21 x28 x29 x237 =
  br x237
  (chk (leI 0 (IntKind.i64.wrap (x29 + 1))) (chk (ltI (IntKind.i64.wrap (x29 + 1)) (List.length x13 : Int)) (diffBisect_j12 K k i0 x0 x1 x2 x7 x8 x9 x10 x11 x12 x13 x15 x16 x17 x18 x19 x20 x21 x28 x29 (nth (.int .i64) x13 (IntKind.i64.wrap (x29 + 1))))))
  (chk (leI 0 (IntKind.i64.wrap (x29 - 1))) (chk (ltI (IntKind.i64.wrap (x29 - 1)) (List.length x13 : Int)) (diffBisect_j12 K k i0 x0 x1 x2 x7 x8 x9 x10 x11 x12 x13 x15 x16 x17 x18 x19 x20 x21 x28 x29 (IntKind.i64.wrap ((nth (.int .i64) x13 (IntKind.i64.wrap (x29 - 1))) + 1))))) := by kernel_rfl
theorem diffBisect_j10_eq (K k : Nat) (i0 : Int) (x0 : List TS1.den) (x1 : List Int) (x2 : List Int) (x7 : Int) (x8 : Int) (x9 : Int) (x10 : Int) (x11 : Int) (x12 : List Int) (x13 : List Int) (x15 : Int) (x16 : Bool) (x17 : Int) (x18 : Int) (x19 : Int) (x20 : Int) (x21 : Int) (x22 : Int) (x23 : Int) (x24 : Int) (x25 : Int) : diffBisect_j10 K (k + 1) i0 x0 x1 x2 x7 x8 x9 x10 x11 x12 x13 x15 x16 x17 x18 x19 x20 x21 x22 x23 x24 x25 =
  chk (leI 0 x24) (chk (ltI x24 (List.length x1 : Int)) (chk (leI 0 x25) (chk (ltI x25 (List.length x2 : Int)) (br (!eqI (nth (.int .i32) x1 x24) (nth (.int .i32) x2 x25))
  (diffBisect_j11 K k i0 x0 x1 x2 x7 x8 x9 x10 x11 x12 x13 x15 x16 x17 x18 x19 x20 x21 x22 x23 x24 x25)
  (diffBisect_l4 K k i0 x0 x1 x2 x7 x8 x9 x10 x11 x12 x13 x15 x16 x17 x18 x19 x20 x21 x22 x23 (IntKind.i64.wrap (x24 + 1)) (IntKind.i64.wrap (x25 + 1))))))) := by kernel_rfl
theorem diffBisect_j11_eq (K k : Nat) (i0 : Int) (x0 : List TS1.den) (x1 : List Int) (x2 : List Int) (x7 : Int) (x8 : Int) (x9 : Int) (x10 : Int) (x11 : Int) (x12 : List Int) (x13 : List Int) (x15 : Int) (x16 : Bool) (x17 : Int) (x18 : Int) (x19 : Int) (x20 : Int) (x21 : Int) (x22 : Int) (x23 : Int) (x24 : Int) (x25 : Int) : diffBisect_j11 K (k + 1) i0 x0 x1 x2 x7 x8 x9 x10 x11 x12 x13 x15 x16 x17 x18 x19 x20 x21 x22 x23 x24 x25 =
  chk (leI 0 x23) (chk (ltI x23 (List.length x12 : Int)) (br (ltI x7 x24)
  (diffBisect_l2 K k i0 x0 x1 x2 x7 x8 x9 x10 x11 (List.set x12 (Int.toNat x23) x24) x13 x15 x16 x17 (IntKind.i64.wrap (x18 + 2)) x19 x20 x21 (IntKind.i64.wrap (x22 + 2)))
  (br (ltI x8 x25)
   (diffBisect_l2 K k i0 x0 x1 x2 x7 x8 x9 x10 x11 (List.set x12 (Int.toNat x23) x24) x13 x15 x16 (IntKind.i64.wrap (x17 + 2)) x18 x19 x20 x21 (IntKind.i64.wrap (x22 + 2)))
   (br x16
    (br (leI 0 (IntKind.i64.wrap ((IntKind.i64.wrap (x10 + x15)) - x22)))
     (br (ltI (IntKind.i64.wrap ((IntKind.i64.wrap (x10 + x15)) - x22)) x11)
      (chk (leI 0 (IntKind.i64.wrap ((IntKind.i64.wrap (x10 + x15)) - x22))) (chk (ltI (IntKind.i64.wrap ((IntKind.i64.wrap (x10 + x15)) - x22)) (List.length x13 : Int)) (diffBisect_j13 K k i0 x0 x1 x2 x7 x8 x9 x10 x11 (List.set x12 (Int.toNat x23) x24) x13 x15 x16 x17 x18 x19 x20 x21 x22 x24 x25 (IntKind.i64.wrap ((IntKind.i64.wrap (x10 + x15)) - x22)) (!eqI (nth (.int .i64) x13 (IntKind.i64.wrap ((IntKind.i64.wrap (x10 + x15)) - x22))) (-1)))))
      (diffBisect_j13 K k i0 x0 x1 x2 x7 x8 x9 x10 x11 (List.set x12 (Int.toNat x23) x24) x13 x15 x16 x17 x18 x19 x20 x21 x22 x24 x25 (IntKind.i64.wrap ((IntKind.i64.wrap (x10 + x15)) - x22)) false))
     (diffBisect_j13 K k i0 x0 x1 x2 x7 x8 x9 x10 x11 (List.set x12 (Int.toNat x23) x24) x13 x15 x16 x17 x18 x19 x20 x21 x22 x24 x25 (IntKind.i64.wrap ((IntKind.i64.wrap (x10 + x15)) - x22)) false))
    (diffBisect_l2 K k i0 x0 x1 x2 x7 x8 x9 x10 x11 (List.set x12 (Int.toNat x23) x24) x13 x15 x16 x17 x18 x19 x20 x21 (IntKind.i64.wrap (x22 + 2))))))) := by kernel_rfl
theorem diffBisect_j12_eq (K k : Nat) (i0 : Int) (x0 : List TS1.den) (x1 : List Int) (x2 : List Int) (x7 : Int) (x8 : Int) (x9 : Int) (x10 : Int) (x11 : Int) (x12 : List Int) (x13 : List Int) (x15 : Int) (x16 : Bool) (x17 : Int) (x18 : Int) (x19 : Int) (x20 : Int) (x21 : Int) (x28 : Int) (x29 : Int) (x30 : Int) : diffBisect_j12 K (k + 1) i0 x0 x1 x2 x7 x8 x9 x10 x11 x12 x13 x15 x16 x17 x18 x19 x20 x21 x28 x29 x30 =
  diffBisect_l5 K k i0 x0 x1 x2 x7 x8 x9 x10 x11 x12 x13 x15 x16 x17 x18 x19 x20 x21 x28 x29 x30 (IntKind.i64.wrap (x30 - x28)) := by kernel_rfl
theorem diffBisect_j13_eq (K k : Nat) (i0 : Int) (x0 : List TS1.den) (x1 : List Int) (x2 : List Int) (x7 : Int) (x8 : Int) (x9 : Int) (x10 : Int) (x11 : Int) (x12 : List Int) (x13 : List Int) (x15 : Int) (x16 : Bool) (x17 : Int) (x18 : Int) (x19 : Int) (x20 : Int) (x21 : Int) (x22 : Int) (x24 : Int) (x25 : Int) (x26 : Int) (x186 : Bool) : diffBisect_j13 K (k + 1) i0 x0 x1 x2 x7 x8 x9 x10 x11 x12 x13 x15 x16 x17 x18 x19 x20 x21 x22 x24 x25 x26 x186 =
  br x186
  (chk (leI 0 x26) (chk (ltI x26 (List.length x13 : Int)) (br (leI (IntKind.i64.wrap (x7 - (nth (.int .i64) x13 x26))) x24)
   (Option.bind (diffBisectSplit K (nth TS1 x0 i0) x1 x2 x24 x25) fun t1 =>
    some t1)
   (diffBisect_l2 K k i0 x0 x1 x2 x7 x8 x9 x10 x11 x12 x13 x15 x16 x17 x18 x19 x20 x21 (IntKind.i64.wrap (x22 + 2))))))
  (diffBisect_l2 K k i0 x0 x1 x2 x7 x8 x9 x10 x11 x12 x13 x15 x16 x17 x18 x19 x20 x21 (IntKind.i64.wrap (x22 + 2))) := by kernel_rfl
theorem diffBisect_l5_eq (K k : Nat) (i0 : Int) (x0 : List TS1.den) (x1 : List Int) (x2 : List Int) (x7 : Int) (x8 : Int) (x9 : Int) (x10 : Int) (x11 : Int) (x12 : List Int) (x13 : List Int) (x15 : Int) (x16 : Bool) (x17 : Int) (x18 : Int) (x19 : Int) (x20 : Int) (x21 : Int) (x28 : Int) (x29 : Int) (x30 : Int) (x31 : Int) : diffBisect_l5 K (k + 1) i0 x0 x1 x2 x7 x8 x9 x10 x11 x12 x13 x15 x16 x17 x18 x19 x20 x21 x28 x29 x30 x31 =
  br (ltI x30 x7)
  (br (ltI x31 x8)
   (diffBisect_j14 K k i0 x0 x1 x2 x7 x8 x9 x10 x11 x12 x13 x15 x16 x17 x18 x19 x20 x21 x28 x29 x30 x31)
   (diffBisect_j15 K k i0 x0 x1 x2 x7 x8 x9 x10 x11 x12 x13 x15 x16 x17 x18 x19 x20 x21 x28 x29 x30 x31))
  (diffBisect_j15 K k i0 x0 x1 x2 x7 x8 x9 x10 x11 x12 x13 x15 x16 x17 x18 x19 x20 x21 x28 x29 x30 x31) := by kernel_rfl
theorem diffBisect_j14_eq (K k : Nat) (i0 : Int) (x0 : List TS1.den) (x1 : List Int) (x2 : List Int) (x7 : Int) (x8 : Int) (x9 : Int) (x10 : Int) (x11 : Int) (x12 : List Int) (x13 : List Int) (x15 : Int) (x16 : Bool) (x17 : Int) (x18 : Int) (x19 : Int) (x20 : Int) (x21 : Int) (x28 : Int) (x29 : Int) (x30 : Int) (x31 : Int) : diffBisect_j14 K (k + 1) i0 x0 x1 x2 x7 x8 x9 x10 x11 x12 x13 x15 x16 x17 x18 x19 x20 x21 x28 x29 x30 x31 =
  chk (leI 0 (IntKind.i64.wrap ((IntKind.i64.wrap (x7 - x30)) - 1))) (chk (ltI (IntKind.i64.wrap ((IntKind.i64.wrap (x7 - x30)) - 1)) (List.length x1 : Int)) (chk (leI 0 (IntKind.i64.wrap ((IntKind.i64.wrap (x8 - x31)) - 1))) (chk (ltI (IntKind.i64.wrap ((IntKind.i64.wrap (x8 - x31)) - 1)) (List.length x2 : Int)) (br (!eqI (nth (.int .i32) x1 (IntKind.i64.wrap ((IntKind.i64.wrap (x7 - x30)) - 1))) (nth (.int .i32) x2 (IntKind.i64.wrap ((IntKind.i64.wrap (x8 - x31)) - 1))))
  (diffBisect_j15 K k i0 x0 x1 x2 x7 x8 x9 x10 x11 x12 x13 x15 x16 x17 x18 x19 x20 x21 x28 x29 x30 x31)
  (diffBisect_l5 K k i0 x0 x1 x2 x7 x8 x9 x10 x11 x12 x13 x15 x16 x17 x18 x19 x20 x21 x28 x29 (IntKind.i64.wrap (x30 + 1)) (IntKind.i64.wrap (x31 + 1))))))) := by kernel_rfl
theorem diffBisect_j15_eq (K k : Nat) (i0 : Int) (x0 : List TS1.den) (x1 : List Int) (x2 : List Int) (x7 : Int) (x8 : Int) (x9 : Int) (x10 : Int) (x11 : Int) (x12 : List Int) (x13 : List Int) (x15 : Int) (x16 : Bool) (x17 : Int) (x18 : Int) (x19 : Int) (x20 : Int) (x21 : Int) (x28 : Int) (x29 : Int) (x30 : Int) (x31 : Int) : diffBisect_j15 K (k + 1) i0 x0 x1 x2 x7 x8 x9 x10 x11 x12 x13 x15 x16 x17 x18 x19 x20 x21 x28 x29 x30 x31 =
  chk (leI 0 x29) (chk (ltI x29 (List.length x13 : Int)) (br (ltI x7 x30)
  (diffBisect_l3 K k i0 x0 x1 x2 x7 x8 x9 x10 x11 x12 (List.set x13 (Int.toNat x29) x30) x15 x16 x17 x18 x19 (IntKind.i64.wrap (x20 + 2)) x21 (IntKind.i64.wrap (x28 + 2)))
  (br (ltI x8 x31)
   (diffBisect_l3 K k i0 x0 x1 x2 x7 x8 x9 x10 x11 x12 (List.set x13 (Int.toNat x29) x30) x15 x16 x17 x18 (IntKind.i64.wrap (x19 + 2)) x20 x21 (IntKind.i64.wrap (x28 + 2)))
   (br (!x16)
    (br (leI 0 (IntKind.i64.wrap ((IntKind.i64.wrap (x10 + x15)) - x28)))
     (br (ltI (IntKind.i64.wrap ((IntKind.i64.wrap (x10 + x15)) - x28)) x11)
      (chk (leI 0 (IntKind.i64.wrap ((IntKind.i64.wrap (x10 + x15)) - x28))) (chk (ltI (IntKind.i64.wrap ((IntKind.i64.wrap (x10 + x15)) - x28)) (List.length x12 : Int)) (diffBisect_j16 K k i0 x0 x1 x2 x7 x8 x9 x10 x11 x12 (List.set x13 (Int.toNat x29) x30) x15 x16 x17 x18 x19 x20 x21 x28 x30 (IntKind.i64.wrap ((IntKind.i64.wrap (x10 + x15)) - x28)) (!eqI (nth (.int .i64) x12 (IntKind.i64.wrap ((IntKind.i64.wrap (x10 + x15)) - x28))) (-1)))))
      (diffBisect_j16 K k i0 x0 x1 x2 x7 x8 x9 x10 x11 x12 (List.set x13 (Int.toNat x29) x30) x15 x16 x17 x18 x19 x20 x21 x28 x30 (IntKind.i64.wrap ((IntKind.i64.wrap (x10 + x15)) - x28)) false))
     (diffBisect_j16 K k i0 x0 x1 x2 x7 x8 x9 x10 x11 x12 (List.set x13 (Int.toNat x29) x30) x15 x16 x17 x18 x19 x20 x21 x28 x30 (IntKind.i64.wrap ((IntKind.i64.wrap (x10 + x15)) - x28)) false))
    (diffBisect_l3 K k i0 x0 x1 x2 x7 x8 x9 x10 x11 x12 (List.set x13 (Int.toNat x29) x30) x15 x16 x17 x18 x19 x20 x21 (IntKind.i64.wrap (x28 + 2))))))) := by kernel_rfl
theorem diffBisect_j16_eq (K k : Nat) (i0 : Int) (x0 : List TS1.den) (x1 : List Int) (x2 : List Int) (x7 : Int) (x8 : Int) (x9 : Int) (x10 : Int) (x11 : Int) (x12 : List Int) (x13 : List Int) (x15 : Int) (x16 : Bool) (x17 : Int) (x18 : Int) (x19 : Int) (x20 : Int) (x21 : Int) (x28 : Int) (x30 : Int) (x32 : Int) (x313 : Bool) : diffBisect_j16 K (k + 1) i0 x0 x1 x2 x7 x8 x9 x10 x11 x12 x13 x15 x16 x17 x18 x19 x20 x21 x28 x30 x32 x313 =
  br x313
  (chk (leI 0 x32) (chk (ltI x32 (List.length x12 : Int)) (br (leI (IntKind.i64.wrap (x7 - x30)) (nth (.int .i64) x12 x32))
   (Option.bind (diffBisectSplit K (nth TS1 x0 i0) x1 x2 (nth (.int .i64) x12 x32) (IntKind.i64.wrap ((IntKind.i64.wrap (x10 + (nth (.int .i64) x12 x32))) - x32))) fun t2 =>
    some t2)
   (diffBisect_l3 K k i0 x0 x1 x2 x7 x8 x9 x10 x11 x12 x13 x15 x16 x17 x18 x19 x20 x21 (IntKind.i64.wrap (x28 + 2))))))
  (diffBisect_l3 K k i0 x0 x1 x2 x7 x8 x9 x10 x11 x12 x13 x15 x16 x17 x18 x19 x20 x21 (IntKind.i64.wrap (x28 + 2))) := by kernel_rfl
theorem zzJoin_eq (K : Nat) (x0 : List ByteArray) : zzJoin (K + 1) x0 =
  zzJoin_l0 K K (⟨#[]⟩ : ByteArray) x0 (List.length x0 : Int) 0 := by kernel_rfl
theorem zzJoin_l0_eq (K k : Nat) (x3 : ByteArray) (x6 : List ByteArray) (x7 : Int) (x8 : Int) : zzJoin_l0 K (k + 1) x3 x6 x7 x8 =
  br (ltI x8 x7)
  (zzJoin_j0 K k x3 x6 x7 x8)
  (some x3) := by kernel_rfl
theorem zzJoin_j0_eq (K k : Nat) (x3 : ByteArray) (x6 : List ByteArray) (x7 : Int) (x8 : Int) : zzJoin_j0 K (k + 1) x3 x6 x7 x8 =
  chk (leI 0 x8) (chk (ltI x8 (List.length x6 : Int)) (chk (nleI (ByteArray.size x3 + ByteArray.size (nth .str x6 x8)) 9223372036854775807) (zzJoin_l0 K k (ByteArray.append x3 (nth .str x6 x8)) x6 x7 (IntKind.i64.wrap (x8 + 1))))) := by kernel_rfl
theorem diffmatchpatch_max_eq (K : Nat) (x0 : Int) (x1 : Int) : diffmatchpatch_max (K + 1) x0 x1 =
  br (ltI x1 x0)
  (some x0)
  (some x1) := by kernel_rfl
theorem runesEqual_eq (K : Nat) (x0 : List Int) (x1 : List Int) : runesEqual (K + 1) x0 x1 =
  br (!eqI (List.length x0 : Int) (List.length x1 : Int))
  (some false)
  (runesEqual_j0 K K x0 x1) := by kernel_rfl
theorem runesEqual_j0_eq (K k : Nat) (x0 : List Int) (x1 : List Int) : runesEqual_j0 K (k + 1) x0 x1 =
  runesEqual_l0 K k x1 x0 (List.length x0 : Int) 0 := by kernel_rfl
theorem runesEqual_l0_eq (K k : Nat) (x1 : List Int) (x12 : List Int) (x13 : Int) (x14 : Int) : runesEqual_l0 K (k + 1) x1 x12 x13 x14 =
  br (ltI x14 x13)
  (runesEqual_j1 K k x1 x12 x13 x14)
  (some true) := by kernel_rfl
theorem runesEqual_j1_eq (K k : Nat) (x1 : List Int) (x12 : List Int) (x13 : Int) (x14 : Int) : runesEqual_j1 K (k + 1) x1 x12 x13 x14 =
  chk (leI 0 x14) (chk (ltI x14 (List.length x12 : Int)) (chk (leI 0 x14) (chk (ltI x14 (List.length x1 : Int)) (br (!eqI (nth (.int .i32) x12 x14) (nth (.int .i32) x1 x14))
  (some false)
  (runesEqual_l0 K k x1 x12 x13 (IntKind.i64.wrap (x14 + 1))))))) := by kernel_rfl
theorem commonPrefixLength_eq (K : Nat) (x0 : List Int) (x1 : List Int) : commonPrefixLength (K + 1) x0 x1 =
  commonPrefixLength_l0 K K x0 x1 0 := by kernel_rfl
theorem commonPrefixLength_l0_eq (K k : Nat) (x0 : List Int) (x1 : List Int) (x5 : Int) : commonPrefixLength_l0 K (k + 1) x0 x1 x5 =
  br (ltI x5 (List.length x0 : Int))
  (br (ltI x5 (List.length x1 : Int))
   (commonPrefixLength_j0 K k x0 x1 x5)
   (some x5))
  (some x5) := by kernel_rfl
theorem commonPrefixLength_j0_eq (K k : Nat) (x0 : List Int) (x1 : List Int) (x5 : Int) : commonPrefixLength_j0 K (k + 1) x0 x1 x5 =
  chk (leI 0 x5) (chk (ltI x5 (List.length x0 : Int)) (chk (leI 0 x5) (chk (ltI x5 (List.length x1 : Int)) (br (!eqI (nth (.int .i32) x0 x5) (nth (.int .i32) x1 x5))
  (some x5)
  (commonPrefixLength_l0 K k x0 x1 (IntKind.i64.wrap (x5 + 1))))))) := by kernel_rfl
theorem commonSuffixLength_eq (K : Nat) (x0 : List Int) (x1 : List Int) : commonSuffixLength (K + 1) x0 x1 =
  commonSuffixLength_l0 K K x0 x1 (List.length x0 : Int) (List.length x1 : Int) 0 := by kernel_rfl
theorem commonSuffixLength_l0_eq (K k : Nat) (x0 : List Int) (x1 : List Int) (x5 : Int) (x6 : Int) (x7 : Int) : commonSuffixLength_l0 K (k + 1) x0 x1 x5 x6 x7 =
  br (ltI (IntKind.i64.wrap (x5 - 1)) 0)
  (commonSuffixLength_j0 K k x0 x1 (IntKind.i64.wrap (x5 - 1)) (IntKind.i64.wrap (x6 - 1)) x7 true)
  (br (ltI (IntKind.i64.wrap (x6 - 1)) 0)
   (commonSuffixLength_j0 K k x0 x1 (IntKind.i64.wrap (x5 - 1)) (IntKind.i64.wrap (x6 - 1)) x7 true)
   (chk (leI 0 (IntKind.i64.wrap (x5 - 1))) (chk (ltI (IntKind.i64.wrap (x5 - 1)) (List.length x0 : Int)) (chk (leI 0 (IntKind.i64.wrap (x6 - 1))) (chk (ltI (IntKind.i64.wrap (x6 - 1)) (List.length x1 : Int)) (commonSuffixLength_j0 K k x0 x1 (IntKind.i64.wrap (x5 - 1)) (IntKind.i64.wrap (x6 - 1)) x7 (!eqI (nth (.int .i32) x0 (IntKind.i64.wrap (x5 - 1))) (nth (.int .i32) x1 (IntKind.i64.wrap (x6 - 1)))))))))) := by kernel_rfl
theorem commonSuffixLength_j0_eq (K k : Nat) (x0 : List Int) (x1 : List Int) (x5 : Int) (x6 : Int) (x7 : Int) (x34 : Bool) : commonSuffixLength_j0 K (k + 1) x0 x1 x5 x6 x7 x34 =
  br x34
  (some x7)
  (commonSuffixLength_l0 K k x0 x1 x5 x6 (IntKind.i64.wrap (x7 + 1))) := by kernel_rfl
theorem diffCompute_eq (K : Nat) (x0 : TS1.den) (x1 : List Int) (x2 : List Int) (x3 : Bool) : diffCompute (K + 1) x0 x1 x2 x3 =
  br (eqI (List.length x1 : Int) 0)
  (chk (ltI ((List.length ([] : List TS2.den) : Int) + (List.length ([(1, (strOfRunes x2))] : List TS2.den) : Int)) 1000000000000) (some (([] : List TS2.den) ++ ([(1, (strOfRunes x2))] : List TS2.den))))
  (br (eqI (List.length x2 : Int) 0)
   (chk (ltI ((List.length ([] : List TS2.den) : Int) + (List.length ([((-1), (strOfRunes x1))] : List TS2.den) : Int)) 1000000000000) (some (([] : List TS2.den) ++ ([((-1), (strOfRunes x1))] : List TS2.den))))
   (diffCompute_j0 K K 0 [x0] x1 x2 x3)) := by kernel_rfl
theorem diffCompute_j0_eq (K k : Nat) (i0 : Int) (x0 : List TS1.den) (x1 : List Int) (x2 : List Int) (x3 : Bool) : diffCompute_j0 K (k + 1) i0 x0 x1 x2 x3 =
  br (ltI (List.length x2 : Int) (List.length x1 : Int))
  (diffCompute_j1 K k i0 x0 x1 x2 x3)
  (diffCompute_j2 K k i0 x0 x1 x2 x3) := by kernel_rfl
theorem diffCompute_j1_eq (K k : Nat) (i0 : Int) (x0 : List TS1.den) (x1 : List Int) (x2 : List Int) (x3 : Bool) : diffCompute_j1 K (k + 1) i0 x0 x1 x2 x3 =
  Option.bind (runesIndex K x1 x2) fun t1 =>
  br (!eqI t1 (-1))
  (br (ltI (List.length x2 : Int) (List.length x1 : Int))
   (diffCompute_j3 K k x1 x2 t1 (-1))
   (diffCompute_j3 K k x1 x2 t1 1))
  (br (eqI (List.length x2 : Int) 1)
   (some ([((-1), (strOfRunes x1)), (1, (strOfRunes x2))] : List TS2.den))
   (Option.bind (diffHalfMatch K (nth TS1 x0 i0) x1 x2) fun t2 =>
    br x3
    (br (ltI 100 (List.length x1 : Int))
     (diffCompute_j4 K k i0 x0 x1 x2 (ltI 100 (List.length x2 : Int)))
     (diffCompute_j4 K k i0 x0 x1 x2 false))
    (diffCompute_j4 K k i0 x0 x1 x2 false))) := by kernel_rfl
theorem diffCompute_j2_eq (K k : Nat) (i0 : Int) (x0 : List TS1.den) (x1 : List Int) (x2 : List Int) (x3 : Bool) : diffCompute_j2 K (k + 1) i0 x0 x1 x2 x3 =
  Option.bind (runesIndex K x2 x1) fun t3 =>
  br (!eqI t3 (-1))
  (br (ltI (List.length x2 : Int) (List.length x1 : Int))
   (diffCompute_j3 K k x2 x1 t3 (-1))
   (diffCompute_j3 K k x2 x1 t3 1))
  (br (eqI (List.length x1 : Int) 1)
   (some ([((-1), (strOfRunes x1)), (1, (strOfRunes x2))] : List TS2.den))
   (Option.bind (diffHalfMatch K (nth TS1 x0 i0) x1 x2) fun t4 =>
    br x3
    (br (ltI 100 (List.length x1 : Int))
     (diffCompute_j4 K k i0 x0 x1 x2 (ltI 100 (List.length x2 : Int)))
     (diffCompute_j4 K k i0 x0 x1 x2 false))
    (diffCompute_j4 K k i0 x0 x1 x2 false))) := by kernel_rfl
theorem diffCompute_j3_eq (K k : Nat) (x10 : List Int) (x11 : List Int) (x12 : Int) (x13 : Int) : diffCompute_j3 K (k + 1) x10 x11 x12 x13 =
  chk (leI 0 0) (chk (leI 0 x12) (chk (leI x12 (List.length x10 : Int)) (chk (leI 0 (IntKind.i64.wrap (x12 + (List.length x11 : Int)))) (chk (leI (IntKind.i64.wrap (x12 + (List.length x11 : Int))) (List.length x10 : Int)) (chk (leI (List.length x10 : Int) (List.length x10 : Int)) (some ([(x13, (strOfRunes (List.take (Int.toNat x12 - Int.toNat 0) (List.drop (Int.toNat 0) x10)))), (0, (strOfRunes x11)), (x13, (strOfRunes (List.take (Int.toNat (List.length x10 : Int) - Int.toNat (IntKind.i64.wrap (x12 + (List.length x11 : Int)))) (List.drop (Int.toNat (IntKind.i64.wrap (x12 + (List.length x11 : Int)))) x10))))] : List TS2.den))))))) := by kernel_rfl
theorem diffCompute_j4_eq (K k : Nat) (i0 : Int) (x0 : List TS1.den) (x1 : List Int) (x2 : List Int) (x142 : Bool) : diffCompute_j4 K (k + 1) i0 x0 x1 x2 x142 =
  br x142
  (Option.bind (diffLineMode K (nth TS1 x0 i0) x1 x2) fun t5 =>
   some t5)
  (diffCompute_j5 K k i0 x0 x1 x2) := by kernel_rfl
theorem diffCompute_j5_eq (K k : Nat) (i0 : Int) (x0 : List TS1.den) (x1 : List Int) (x2 : List Int) : diffCompute_j5 K (k + 1) i0 x0 x1 x2 =
  Option.bind (diffBisect K (nth TS1 x0 i0) x1 x2) fun t6 =>
  some t6 := by kernel_rfl
theorem DiffCleanupMerge_eq (K : Nat) (x0 : TS1.den) (x1 : List TS2.den) : DiffCleanupMerge (K + 1) x0 x1 =
  chk (ltI ((List.length x1 : Int) + (List.length ([(0, (⟨#[]⟩ : ByteArray))] : List TS2.den) : Int)) 1000000000000) (DiffCleanupMerge_l0 K K 0 [x0] (x1 ++ ([(0, (⟨#[]⟩ : ByteArray))] : List TS2.den)) 0 0 0 [] []) := by kernel_rfl
theorem DiffCleanupMerge_l0_eq (K k : Nat) (i0 : Int) (x0 : List TS1.den) (x1 : List TS2.den) (x5 : Int) (x6 : Int) (x7 : Int) (x9 : List Int) (x10 : List Int) : DiffCleanupMerge_l0 K (k + 1) i0 x0 x1 x5 x6 x7 x9 x10 =
  br (ltI x5 (List.length x1 : Int))
  (DiffCleanupMerge_j0 K k i0 x0 x1 x5 x6 x7 x9 x10)
  (DiffCleanupMerge_j1 K k i0 x0 x1) := by kernel_rfl
theorem DiffCleanupMerge_j0_eq (K k : Nat) (i0 : Int) (x0 : List TS1.den) (x1 : List TS2.den) (x5 : Int) (x6 : Int) (x7 : Int) (x9 : List Int) (x10 : List Int) : DiffCleanupMerge_j0 K (k + 1) i0 x0 x1 x5 x6 x7 x9 x10 =
  chk (leI 0 x5) (chk (ltI x5 (List.length x1 : Int)) (br (eqI ((nth TS2 x1 x5).1) 1)
  (chk (leI 0 x5) (chk (ltI x5 (List.length x1 : Int)) (chk (nleI (List.length (runesI ((nth TS2 x1 x5).2))) 70368744177664) (chk (ltI ((List.length x10 : Int) + (List.length (runesI ((nth TS2 x1 x5).2)) : Int)) 1000000000000) (DiffCleanupMerge_l0 K k i0 x0 x1 (IntKind.i64.wrap (x5 + 1)) x6 (IntKind.i64.wrap (x7 + 1)) x9 (x10 ++ (runesI ((nth TS2 x1 x5).2))))))))
  (br (eqI ((nth TS2 x1 x5).1) (-1))
   (chk (leI 0 x5) (chk (ltI x5 (List.length x1 : Int)) (chk (nleI (List.length (runesI ((nth TS2 x1 x5).2))) 70368744177664) (chk (ltI ((List.length x9 : Int) + (List.length (runesI ((nth TS2 x1 x5).2)) : Int)) 1000000000000) (DiffCleanupMerge_l0 K k i0 x0 x1 (IntKind.i64.wrap (x5 + 1)) (IntKind.i64.wrap (x6 + 1)) x7 (x9 ++ (runesI ((nth TS2 x1 x5).2))) x10)))))
   (br (eqI ((nth TS2 x1 x5).1) 0)
    (br (ltI 1 (IntKind.i64.wrap (x6 + x7)))
     (br (!eqI x6 0)
      (DiffCleanupMerge_j2 K k i0 x0 x1 x5 x6 x7 x9 x10 (!eqI x7 0))
      (DiffCleanupMerge_j2 K k i0 x0 x1 x5 x6 x7 x9 x10 false))
     (br (!eqI x5 0)
      (chk (leI 0 (IntKind.i64.wrap (x5 - 1))) (chk (ltI (IntKind.i64.wrap (x5 - 1)) (List.length x1 : Int)) (DiffCleanupMerge_j3 K k i0 x0 x1 x5 (eqI ((nth TS2 x1 (IntKind.i64.wrap (x5 - 1))).1) 0))))
      (DiffCleanupMerge_j3 K k i0 x0 x1 x5 false)))
    (DiffCleanupMerge_l0 K k i0 x0 x1 x5 x6 x7 x9 x10))))) := by kernel_rfl
theorem DiffCleanupMerge_j1_eq (K k : Nat) (i0 : Int) (x0 : List TS1.den) (x1 : List TS2.den) : DiffCleanupMerge_j1 K (k + 1) i0 x0 x1 =
  chk (leI 0 (IntKind.i64.wrap ((List.length x1 : Int) - 1))) (chk (ltI (IntKind.i64.wrap ((List.length x1 : Int) - 1)) (List.length x1 : Int)) (br (eqI (ByteArray.size ((nth TS2 x1 (IntKind.i64.wrap ((List.length x1 : Int) - 1))).2) : Int) 0)
  (chk (leI 0 0) (chk (leI 0 (IntKind.i64.wrap ((List.length x1 : Int) - 1))) (chk (leI (IntKind.i64.wrap ((List.length x1 : Int) - 1)) (List.length x1 : Int)) (DiffCleanupMerge_j4 K k i0 x0 (List.take (Int.toNat (IntKind.i64.wrap ((List.length x1 : Int) - 1))) x1)))))
  (DiffCleanupMerge_j4 K k i0 x0 x1))) := by kernel_rfl
theorem DiffCleanupMerge_j2_eq (K k : Nat) (i0 : Int) (x0 : List TS1.den) (x1 : List TS2.den) (x5 : Int) (x6 : Int) (x7 : Int) (x9 : List Int) (x10 : List Int) (x67 : Bool) : DiffCleanupMerge_j2 K (k + 1) i0 x0 x1 x5 x6 x7 x9 x10 x67 =
  br x67
  (Option.bind (commonPrefixLength K x10 x9) fun t1 =>
   br (!eqI t1 0)
   (br (ltI 0 (IntKind.i64.wrap ((IntKind.i64.wrap (x5 - x6)) - x7)))
    (chk (leI 0 (IntKind.i64.wrap ((IntKind.i64.wrap ((IntKind.i64.wrap (x5 - x6)) - x7)) - 1))) (chk (ltI (IntKind.i64.wrap ((IntKind.i64.wrap ((IntKind.i64.wrap (x5 - x6)) - x7)) - 1)) (List.length x1 : Int)) (DiffCleanupMerge_j5 K k i0 x0 x1 x5 x6 x7 t1 x9 x10 (IntKind.i64.wrap ((IntKind.i64.wrap (x5 - x6)) - x7)) (eqI ((nth TS2 x1 (IntKind.i64.wrap ((IntKind.i64.wrap ((IntKind.i64.wrap (x5 - x6)) - x7)) - 1))).1) 0))))
    (DiffCleanupMerge_j5 K k i0 x0 x1 x5 x6 x7 t1 x9 x10 (IntKind.i64.wrap ((IntKind.i64.wrap (x5 - x6)) - x7)) false))
   (DiffCleanupMerge_j6 K k i0 x0 x1 x5 x6 x7 x9 x10))
  (DiffCleanupMerge_j7 K k i0 x0 x1 x5 x6 x7 x9 x10) := by kernel_rfl
theorem DiffCleanupMerge_j3_eq (K k : Nat) (i0 : Int) (x0 : List TS1.den) (x1 : List TS2.den) (x5 : Int) (x220 : Bool) : DiffCleanupMerge_j3 K (k + 1) i0 x0 x1 x5 x220 =
  br x220
  (chk (leI 0 (IntKind.i64.wrap (x5 - 1))) (chk (ltI (IntKind.i64.wrap (x5 - 1)) (List.length x1 : Int)) (chk (leI 0 x5) (chk (ltI x5 (List.length x1 : Int)) (chk (nleI (ByteArray.size ((nth TS2 x1 (IntKind.i64.wrap (x5 - 1))).2) + ByteArray.size ((nth TS2 x1 x5).2)) 9223372036854775807) (chk (leI 0 (IntKind.i64.wrap (x5 - 1))) (chk (ltI (IntKind.i64.wrap (x5 - 1)) (List.length x1 : Int)) (chk (leI 0 0) (chk (leI 0 x5) (chk (leI x5 (List.length (List.set x1 (Int.toNat (IntKind.i64.wrap (x5 - 1))) ((nth TS2 x1 (IntKind.i64.wrap (x5 - 1))).1, (ByteArray.append ((nth TS2 x1 (IntKind.i64.wrap (x5 - 1))).2) ((nth TS2 x1 x5).2)))) : Int)) (chk (leI 0 (IntKind.i64.wrap (x5 + 1))) (chk (leI (IntKind.i64.wrap (x5 + 1)) (List.length (List.set x1 (Int.toNat (IntKind.i64.wrap (x5 - 1))) ((nth TS2 x1 (IntKind.i64.wrap (x5 - 1))).1, (ByteArray.append ((nth TS2 x1 (IntKind.i64.wrap (x5 - 1))).2) ((nth TS2 x1 x5).2)))) : Int)) (chk (leI (List.length (List.set x1 (Int.toNat (IntKind.i64.wrap (x5 - 1))) ((nth TS2 x1 (IntKind.i64.wrap (x5 - 1))).1, (ByteArray.append ((nth TS2 x1 (IntKind.i64.wrap (x5 - 1))).2) ((nth TS2 x1 x5).2)))) : Int) (List.length (List.set x1 (Int.toNat (IntKind.i64.wrap (x5 - 1))) ((nth TS2 x1 (IntKind.i64.wrap (x5 - 1))).1, (ByteArray.append ((nth TS2 x1 (IntKind.i64.wrap (x5 - 1))).2) ((nth TS2 x1 x5).2)))) : Int)) (chk (eqI 0 0) (chk (ltI (x5 + (List.length (List.take (Int.toNat (List.length (List.set x1 (Int.toNat (IntKind.i64.wrap (x5 - 1))) ((nth TS2 x1 (IntKind.i64.wrap (x5 - 1))).1, (ByteArray.append ((nth TS2 x1 (IntKind.i64.wrap (x5 - 1))).2) ((nth TS2 x1 x5).2)))) : Int) - Int.toNat (IntKind.i64.wrap (x5 + 1))) (List.drop (Int.toNat (IntKind.i64.wrap (x5 + 1))) (List.set x1 (Int.toNat (IntKind.i64.wrap (x5 - 1))) ((nth TS2 x1 (IntKind.i64.wrap (x5 - 1))).1, (ByteArray.append ((nth TS2 x1 (IntKind.i64.wrap (x5 - 1))).2) ((nth TS2 x1 x5).2)))))) : Int)) 1000000000000) (DiffCleanupMerge_l0 K k i0 x0 (List.take (Int.toNat x5) (List.set x1 (Int.toNat (IntKind.i64.wrap (x5 - 1))) ((nth TS2 x1 (IntKind.i64.wrap (x5 - 1))).1, (ByteArray.append ((nth TS2 x1 (IntKind.i64.wrap (x5 - 1))).2) ((nth TS2 x1 x5).2)))) ++ (List.take (Int.toNat (List.length (List.set x1 (Int.toNat (IntKind.i64.wrap (x5 - 1))) ((nth TS2 x1 (IntKind.i64.wrap (x5 - 1))).1, (ByteArray.append ((nth TS2 x1 (IntKind.i64.wrap (x5 - 1))).2) ((nth TS2 x1 x5).2)))) : Int) - Int.toNat (IntKind.i64.wrap (x5 + 1))) (List.drop (Int.toNat (IntKind.i64.wrap (x5 + 1))) (List.set x1 (Int.toNat (IntKind.i64.wrap (x5 - 1))) ((nth TS2 x1 (IntKind.i64.wrap (x5 - 1))).1, (ByteArray.append ((nth TS2 x1 (IntKind.i64.wrap (x5 - 1))).2) ((nth TS2 x1 x5).2))))))) x5 0 0 [] []))))))))))))))))
  (DiffCleanupMerge_l0 K k i0 x0 x1 (IntKind.i64.wrap (x5 + 1)) 0 0 [] []) := by kernel_rfl
theorem DiffCleanupMerge_j4_eq (K k : Nat) (i0 : Int) (x0 : List TS1.den) (x1 : List TS2.den) : DiffCleanupMerge_j4 K (k + 1) i0 x0 x1 =
  DiffCleanupMerge_l1 K k i0 x0 x1 1 false := by kernel_rfl
theorem DiffCleanupMerge_j5_eq (K k : Nat) (i0 : Int) (x0 : List TS1.den) (x1 : List TS2.den) (x5 : Int) (x6 : Int) (x7 : Int) (x8 : Int) (x9 : List Int) (x10 : List Int) (x11 : Int) (x88 : Bool) : DiffCleanupMerge_j5 K (k + 1) i0 x0 x1 x5 x6 x7 x8 x9 x10 x11 x88 =
  br x88
  (chk (leI 0 (IntKind.i64.wrap (x11 - 1))) (chk (ltI (IntKind.i64.wrap (x11 - 1)) (List.length x1 : Int)) (chk (leI 0 0) (chk (leI 0 x8) (chk (leI x8 (List.length x10 : Int)) (chk (nleI (ByteArray.size ((nth TS2 x1 (IntKind.i64.wrap (x11 - 1))).2) + ByteArray.size (strOfRunes (List.take (Int.toNat x8 - Int.toNat 0) (List.drop (Int.toNat 0) x10)))) 9223372036854775807) (chk (leI 0 (IntKind.i64.wrap (x11 - 1))) (chk (ltI (IntKind.i64.wrap (x11 - 1)) (List.length x1 : Int)) (chk (leI 0 x8) (chk (leI x8 (List.length x10 : Int)) (chk (leI (List.length x10 : Int) (List.length x10 : Int)) (chk (leI 0 x8) (chk (leI x8 (List.length x9 : Int)) (chk (leI (List.length x9 : Int) (List.length x9 : Int)) (DiffCleanupMerge_j8 K k i0 x0 (List.set x1 (Int.toNat (IntKind.i64.wrap (x11 - 1))) ((nth TS2 x1 (IntKind.i64.wrap (x11 - 1))).1, (ByteArray.append ((nth TS2 x1 (IntKind.i64.wrap (x11 - 1))).2) (strOfRunes (List.take (Int.toNat x8 - Int.toNat 0) (List.drop (Int.toNat 0) x10)))))) x5 x6 x7 (List.take (Int.toNat (List.length x9 : Int) - Int.toNat x8) (List.drop (Int.toNat x8) x9)) (List.take (Int.toNat (List.length x10 : Int) - Int.toNat x8) (List.drop (Int.toNat x8) x10)))))))))))))))))
  (chk (leI 0 0) (chk (leI 0 x8) (chk (leI x8 (List.length x10 : Int)) (chk (ltI ((List.length ([(0, (strOfRunes (List.take (Int.toNat x8 - Int.toNat 0) (List.drop (Int.toNat 0) x10))))] : List TS2.den) : Int) + (List.length x1 : Int)) 1000000000000) (chk (leI 0 x8) (chk (leI x8 (List.length x10 : Int)) (chk (leI (List.length x10 : Int) (List.length x10 : Int)) (chk (leI 0 x8) (chk (leI x8 (List.length x9 : Int)) (chk (leI (List.length x9 : Int) (List.length x9 : Int)) (DiffCleanupMerge_j8 K k i0 x0 (([(0, (strOfRunes (List.take (Int.toNat x8 - Int.toNat 0) (List.drop (Int.toNat 0) x10))))] : List TS2.den) ++ x1) (IntKind.i64.wrap (x5 + 1)) x6 x7 (List.take (Int.toNat (List.length x9 : Int) - Int.toNat x8) (List.drop (Int.toNat x8) x9)) (List.take (Int.toNat (List.length x10 : Int) - Int.toNat x8) (List.drop (Int.toNat x8) x10))))))))))))) := by kernel_rfl
theorem DiffCleanupMerge_j6_eq (K k : Nat) (i0 : Int) (x0 : List TS1.den) (x1 : List TS2.den) (x5 : Int) (x6 : Int) (x7 : Int) (x9 : List Int) (x10 : List Int) : DiffCleanupMerge_j6 K (k + 1) i0 x0 x1 x5 x6 x7 x9 x10 =
  Option.bind (commonSuffixLength K x10 x9) fun t2 =>
  br (!eqI t2 0)
  (chk (leI 0 (IntKind.i64.wrap ((List.length x10 : Int) - t2))) (chk (leI (IntKind.i64.wrap ((List.length x10 : Int) - t2)) (List.length x10 : Int)) (chk (leI (List.length x10 : Int) (List.length x10 : Int)) (chk (leI 0 x5) (chk (ltI x5 (List.length x1 : Int)) (chk (nleI (ByteArray.size (strOfRunes (List.take (Int.toNat (List.length x10 : Int) - Int.toNat (IntKind.i64.wrap ((List.length x10 : Int) - t2))) (List.drop (Int.toNat (IntKind.i64.wrap ((List.length x10 : Int) - t2))) x10))) + ByteArray.size ((nth TS2 x1 x5).2)) 9223372036854775807) (chk (leI 0 x5) (chk (ltI x5 (List.length x1 : Int)) (chk (leI 0 0) (chk (leI 0 (IntKind.i64.wrap ((List.length x10 : Int) - t2))) (chk (leI (IntKind.i64.wrap ((List.length x10 : Int) - t2)) (List.length x10 : Int)) (chk (leI 0 0) (chk (leI 0 (IntKind.i64.wrap ((List.length x9 : Int) - t2))) (chk (leI (IntKind.i64.wrap ((List.length x9 : Int) - t2)) (List.length x9 : Int)) (DiffCleanupMerge_j7 K k i0 x0 (List.set x1 (Int.toNat x5) ((nth TS2 x1 x5).1, (ByteArray.append (strOfRunes (List.take (Int.toNat (List.length x10 : Int) - Int.toNat (IntKind.i64.wrap ((List.length x10 : Int) - t2))) (List.drop (Int.toNat (IntKind.i64.wrap ((List.length x10 : Int) - t2))) x10))) ((nth TS2 x1 x5).2)))) x5 x6 x7 (List.take (Int.toNat (IntKind.i64.wrap ((List.length x9 : Int) - t2))) x9) (List.take (Int.toNat (IntKind.i64.wrap ((List.length x10 : Int) - t2))) x10))))))))))))))))
  (DiffCleanupMerge_j7 K k i0 x0 x1 x5 x6 x7 x9 x10) := by kernel_rfl
theorem DiffCleanupMerge_j7_eq (K k : Nat) (i0 : Int) (x0 : List TS1.den) (x1 : List TS2.den) (x5 : Int) (x6 : Int) (x7 : Int) (x9 : List Int) (x10 : List Int) : DiffCleanupMerge_j7 K (k + 1) i0 x0 x1 x5 x6 x7 x9 x10 =
  br (eqI x6 0)
  (Option.bind (splice K x1 (IntKind.i64.wrap (x5 - x7)) (IntKind.i64.wrap (x6 + x7)) ([(1, (strOfRunes x10))] : List TS2.den)) fun t3 =>
   DiffCleanupMerge_j9 K k i0 x0 t3 x5 x6 x7)
  (br (eqI x7 0)
   (Option.bind (splice K x1 (IntKind.i64.wrap (x5 - x6)) (IntKind.i64.wrap (x6 + x7)) ([((-1), (strOfRunes x9))] : List TS2.den)) fun t4 =>
    DiffCleanupMerge_j9 K k i0 x0 t4 x5 x6 x7)
   (Option.bind (splice K x1 (IntKind.i64.wrap ((IntKind.i64.wrap (x5 - x6)) - x7)) (IntKind.i64.wrap (x6 + x7)) ([((-1), (strOfRunes x9)), (1, (strOfRunes x10))] : List TS2.den)) fun t5 =>
    DiffCleanupMerge_j9 K k i0 x0 t5 x5 x6 x7)) := by kernel_rfl
theorem DiffCleanupMerge_l1_eq (K k : Nat) (i0 : Int) (x0 : List TS1.den) (x1 : List TS2.den) (x5 : Int) (x14 : Bool) : DiffCleanupMerge_l1 K (k + 1) i0 x0 x1 x5 x14 =
  br (ltI x5 (IntKind.i64.wrap ((List.length x1 : Int) - 1)))
  (DiffCleanupMerge_j10 K k i0 x0 x1 x5 x14)
  (DiffCleanupMerge_j11 K k i0 x0 x1 x14) := by kernel_rfl
theorem DiffCleanupMerge_j8_eq (K k : Nat) (i0 : Int) (x0 : List TS1.den) (x1 : List TS2.den) (x5 : Int) (x6 : Int) (x7 : Int) (x9 : List Int) (x10 : List Int) : DiffCleanupMerge_j8 K (k + 1) i0 x0 x1 x5 x6 x7 x9 x10 =
  Option.bind (commonSuffixLength K x10 x9) fun t6 =>
  br (!eqI t6 0)
  (chk (leI 0 (IntKind.i64.wrap ((List.length x10 : Int) - t6))) (chk (leI (IntKind.i64.wrap ((List.length x10 : Int) - t6)) (List.length x10 : Int)) (chk (leI (List.length x10 : Int) (List.length x10 : Int)) (chk (leI 0 x5) (chk (ltI x5 (List.length x1 : Int)) (chk (nleI (ByteArray.size (strOfRunes (List.take (Int.toNat (List.length x10 : Int) - Int.toNat (IntKind.i64.wrap ((List.length x10 : Int) - t6))) (List.drop (Int.toNat (IntKind.i64.wrap ((List.length x10 : Int) - t6))) x10))) + ByteArray.size ((nth TS2 x1 x5).2)) 9223372036854775807) (chk (leI 0 x5) (chk (ltI x5 (List.length x1 : Int)) (chk (leI 0 0) (chk (leI 0 (IntKind.i64.wrap ((List.length x10 : Int) - t6))) (chk (leI (IntKind.i64.wrap ((List.length x10 : Int) - t6)) (List.length x10 : Int)) (chk (leI 0 0) (chk (leI 0 (IntKind.i64.wrap ((List.length x9 : Int) - t6))) (chk (leI (IntKind.i64.wrap ((List.length x9 : Int) - t6)) (List.length x9 : Int)) (DiffCleanupMerge_j12 K k i0 x0 (List.set x1 (Int.toNat x5) ((nth TS2 x1 x5).1, (ByteArray.append (strOfRunes (List.take (Int.toNat (List.length x10 : Int) - Int.toNat (IntKind.i64.wrap ((List.length x10 : Int) - t6))) (List.drop (Int.toNat (IntKind.i64.wrap ((List.length x10 : Int) - t6))) x10))) ((nth TS2 x1 x5).2)))) x5 x6 x7 (List.take (Int.toNat (IntKind.i64.wrap ((List.length x9 : Int) - t6)) - Int.toNat 0) (List.drop (Int.toNat 0) x9)) (List.take (Int.toNat (IntKind.i64.wrap ((List.length x10 : Int) - t6)) - Int.toNat 0) (List.drop (Int.toNat 0) x10)))))))))))))))))
  (DiffCleanupMerge_j12 K k i0 x0 x1 x5 x6 x7 x9 x10) := by kernel_rfl
theorem DiffCleanupMerge_j9_eq (K k : Nat) (i0 : Int) (x0 : List TS1.den) (x1 : List TS2.den) (x5 : Int) (x6 : Int) (x7 : Int) : DiffCleanupMerge_j9 K (k + 1) i0 x0 x1 x5 x6 x7 =
  br (!eqI x6 0)
  (DiffCleanupMerge_j13 K k i0 x0 x1 (IntKind.i64.wrap ((IntKind.i64.wrap ((IntKind.i64.wrap ((IntKind.i64.wrap (x5 - x6)) - x7)) + 1)) + 1)) x7)
  (DiffCleanupMerge_j13 K k i0 x0 x1 (IntKind.i64.wrap ((IntKind.i64.wrap ((IntKind.i64.wrap (x5 - x6)) - x7)) + 1)) x7) := by kernel_rfl
theorem DiffCleanupMerge_j10_eq (K k : Nat) (i0 : Int) (x0 : List TS1.den) (x1 : List TS2.den) (x5 : Int) (x14 : Bool) : DiffCleanupMerge_j10 K (k + 1) i0 x0 x1 x5 x14 =
  chk (leI 0 (IntKind.i64.wrap (x5 - 1))) (chk (ltI (IntKind.i64.wrap (x5 - 1)) (List.length x1 : Int)) (br (eqI ((nth TS2 x1 (IntKind.i64.wrap (x5 - 1))).1) 0)
  (chk (leI 0 (IntKind.i64.wrap (x5 + 1))) (chk (ltI (IntKind.i64.wrap (x5 + 1)) (List.length x1 : Int)) (DiffCleanupMerge_j14 K k i0 x0 x1 x5 x14 (eqI ((nth TS2 x1 (IntKind.i64.wrap (x5 + 1))).1) 0))))
  (DiffCleanupMerge_j14 K k i0 x0 x1 x5 x14 false))) := by kernel_rfl
theorem DiffCleanupMerge_j11_eq (K k : Nat) (i0 : Int) (x0 : List TS1.den) (x1 : List TS2.den) (x14 : Bool) : DiffCleanupMerge_j11 K (k + 1) i0 x0 x1 x14 =
  br x14
  (Option.bind (DiffCleanupMerge K (nth TS1 x0 i0) x1) fun t7 =>
   some t7)
  (some x1) := by kernel_rfl
theorem DiffCleanupMerge_j12_eq (K k : Nat) (i0 : Int) (x0 : List TS1.den) (x1 : List TS2.den) (x5 : Int) (x6 : Int) (x7 : Int) (x9 : List Int) (x10 : List Int) : DiffCleanupMerge_j12 K (k + 1) i0 x0 x1 x5 x6 x7 x9 x10 =
  br (eqI x6 0)
  (Option.bind (splice K x1 (IntKind.i64.wrap (x5 - x7)) (IntKind.i64.wrap (x6 + x7)) ([(1, (strOfRunes x10))] : List TS2.den)) fun t8 =>
   DiffCleanupMerge_j9 K k i0 x0 t8 x5 x6 x7)
  (br (eqI x7 0)
   (Option.bind (splice K x1 (IntKind.i64.wrap (x5 - x6)) (IntKind.i64.wrap (x6 + x7)) ([((-1), (strOfRunes x9))] : List TS2.den)) fun t9 =>
    DiffCleanupMerge_j9 K k i0 x0 t9 x5 x6 x7)
   (Option.bind (splice K x1 (IntKind.i64.wrap ((IntKind.i64.wrap (x5 - x6)) - x7)) (IntKind.i64.wrap (x6 + x7)) ([((-1), (strOfRunes x9)), (1, (strOfRunes x10))] : List TS2.den)) fun t10 =>
    DiffCleanupMerge_j9 K k i0 x0 t10 x5 x6 x7)) := by kernel_rfl
theorem DiffCleanupMerge_j13_eq (K k : Nat) (i0 : Int) (x0 : List TS1.den) (x1 : List TS2.den) (x5 : Int) (x7 : Int) : DiffCleanupMerge_j13 K (k + 1) i0 x0 x1 x5 x7 =
  br (!eqI x7 0)
  (DiffCleanupMerge_l0 K k i0 x0 x1 (IntKind.i64.wrap (x5 + 1)) 0 0 [] [])
  (DiffCleanupMerge_l0 K k i0 x0 x1 x5 0 0 [] []) := by kernel_rfl
theorem DiffCleanupMerge_j14_eq (K k : Nat) (i0 : Int) (x0 : List TS1.den) (x1 : List TS2.den) (x5 : Int) (x14 : Bool) (x279 : Bool) : DiffCleanupMerge_j14 K (k + 1) i0 x0 x1 x5 x14 x279 =
  br x279
  (chk (leI 0 x5) (chk (ltI x5 (List.length x1 : Int)) (chk (leI 0 (IntKind.i64.wrap (x5 - 1))) (chk (ltI (IntKind.i64.wrap (x5 - 1)) (List.length x1 : Int)) (Option.bind (strings_HasSuffix K ((nth TS2 x1 x5).2) ((nth TS2 x1 (IntKind.i64.wrap (x5 - 1))).2)) fun t11 =>
   br t11
   (chk (leI 0 (IntKind.i64.wrap (x5 - 1))) (chk (ltI (IntKind.i64.wrap (x5 - 1)) (List.length x1 : Int)) (chk (leI 0 x5) (chk (ltI x5 (List.length x1 : Int)) (chk (leI 0 x5) (chk (ltI x5 (List.length x1 : Int)) (chk (leI 0 (IntKind.i64.wrap (x5 - 1))) (chk (ltI (IntKind.i64.wrap (x5 - 1)) (List.length x1 : Int)) (chk (leI 0 0) (chk (leI 0 (IntKind.i64.wrap ((ByteArray.size ((nth TS2 x1 x5).2) : Int) - (ByteArray.size ((nth TS2 x1 (IntKind.i64.wrap (x5 - 1))).2) : Int)))) (chk (leI (IntKind.i64.wrap ((ByteArray.size ((nth TS2 x1 x5).2) : Int) - (ByteArray.size ((nth TS2 x1 (IntKind.i64.wrap (x5 - 1))).2) : Int))) (ByteArray.size ((nth TS2 x1 x5).2) : Int)) (chk (nleI (ByteArray.size ((nth TS2 x1 (IntKind.i64.wrap (x5 - 1))).2) + ByteArray.size (ByteArray.extract ((nth TS2 x1 x5).2) (Int.toNat 0) (Int.toNat (IntKind.i64.wrap ((ByteArray.size ((nth TS2 x1 x5).2) : Int) - (ByteArray.size ((nth TS2 x1 (IntKind.i64.wrap (x5 - 1))).2) : Int)))))) 9223372036854775807) (chk (leI 0 x5) (chk (ltI x5 (List.length x1 : Int)) (chk (leI 0 (IntKind.i64.wrap (x5 - 1))) (chk (ltI (IntKind.i64.wrap (x5 - 1)) (List.length (List.set x1 (Int.toNat x5) ((nth TS2 x1 x5).1, (ByteArray.append ((nth TS2 x1 (IntKind.i64.wrap (x5 - 1))).2) (ByteArray.extract ((nth TS2 x1 x5).2) (Int.toNat 0) (Int.toNat (IntKind.i64.wrap ((ByteArray.size ((nth TS2 x1 x5).2) : Int) - (ByteArray.size ((nth TS2 x1 (IntKind.i64.wrap (x5 - 1))).2) : Int)))))))) : Int)) (chk (leI 0 (IntKind.i64.wrap (x5 + 1))) (chk (ltI (IntKind.i64.wrap (x5 + 1)) (List.length (List.set x1 (Int.toNat x5) ((nth TS2 x1 x5).1, (ByteArray.append ((nth TS2 x1 (IntKind.i64.wrap (x5 - 1))).2) (ByteArray.extract ((nth TS2 x1 x5).2) (Int.toNat 0) (Int.toNat (IntKind.i64.wrap ((ByteArray.size ((nth TS2 x1 x5).2) : Int) - (ByteArray.size ((nth TS2 x1 (IntKind.i64.wrap (x5 - 1))).2) : Int)))))))) : Int)) (chk (nleI (ByteArray.size ((nth TS2 (List.set x1 (Int.toNat x5) ((nth TS2 x1 x5).1, (ByteArray.append ((nth TS2 x1 (IntKind.i64.wrap (x5 - 1))).2) (ByteArray.extract ((nth TS2 x1 x5).2) (Int.toNat 0) (Int.toNat (IntKind.i64.wrap ((ByteArray.size ((nth TS2 x1 x5).2) : Int) - (ByteArray.size ((nth TS2 x1 (IntKind.i64.wrap (x5 - 1))).2) : Int)))))))) (IntKind.i64.wrap (x5 - 1))).2) + ByteArray.size ((nth TS2 (List.set x1 (Int.toNat x5) ((nth TS2 x1 x5).1, (ByteArray.append ((nth TS2 x1 (IntKind.i64.wrap (x5 - 1))).2) (ByteArray.extract ((nth TS2 x1 x5).2) (Int.toNat 0) (Int.toNat (IntKind.i64.wrap ((ByteArray.size ((nth TS2 x1 x5).2) : Int) - (ByteArray.size ((nth TS2 x1 (IntKind.i64.wrap (x5 - 1))).2) : Int)))))))) (IntKind.i64.wrap (x5 + 1))).2)) 9223372036854775807) (chk (leI 0 (IntKind.i64.wrap (x5 + 1))) (chk (ltI (IntKind.i64.wrap (x5 + 1)) (List.length (List.set x1 (Int.toNat x5) ((nth TS2 x1 x5).1, (ByteArray.append ((nth TS2 x1 (IntKind.i64.wrap (x5 - 1))).2) (ByteArray.extract ((nth TS2 x1 x5).2) (Int.toNat 0) (Int.toNat (IntKind.i64.wrap ((ByteArray.size ((nth TS2 x1 x5).2) : Int) - (ByteArray.size ((nth TS2 x1 (IntKind.i64.wrap (x5 - 1))).2) : Int)))))))) : Int)) (Option.bind (splice K (List.set (List.set x1 (Int.toNat x5) ((nth TS2 x1 x5).1, (ByteArray.append ((nth TS2 x1 (IntKind.i64.wrap (x5 - 1))).2) (ByteArray.extract ((nth TS2 x1 x5).2) (Int.toNat 0) (Int.toNat (IntKind.i64.wrap ((ByteArray.size ((nth TS2 x1 x5).2) : Int) - (ByteArray.size ((nth TS2 x1 (IntKind.i64.wrap (x5 - 1))).2) : Int)))))))) (Int.toNat (IntKind.i64.wrap (x5 + 1))) ((nth TS2 (List.set x1 (Int.toNat x5) ((nth TS2 x1 x5).1, (ByteArray.append ((nth TS2 x1 (IntKind.i64.wrap (x5 - 1))).2) (ByteArray.extract ((nth TS2 x1 x5).2) (Int.toNat 0) (Int.toNat (IntKind.i64.wrap ((ByteArray.size ((nth TS2 x1 x5).2) : Int) - (ByteArray.size ((nth TS2 x1 (IntKind.i64.wrap (x5 - 1))).2) : Int)))))))) (IntKind.i64.wrap (x5 + 1))).1, (ByteArray.append ((nth TS2 (List.set x1 (Int.toNat x5) ((nth TS2 x1 x5).1, (ByteArray.append ((nth TS2 x1 (IntKind.i64.wrap (x5 - 1))).2) (ByteArray.extract ((nth TS2 x1 x5).2) (Int.toNat 0) (Int.toNat (IntKind.i64.wrap ((ByteArray.size ((nth TS2 x1 x5).2) : Int) - (ByteArray.size ((nth TS2 x1 (IntKind.i64.wrap (x5 - 1))).2) : Int)))))))) (IntKind.i64.wrap (x5 - 1))).2) ((nth TS2 (List.set x1 (Int.toNat x5) ((nth TS2 x1 x5).1, (ByteArray.append ((nth TS2 x1 (IntKind.i64.wrap (x5 - 1))).2) (ByteArray.extract ((nth TS2 x1 x5).2) (Int.toNat 0) (Int.toNat (IntKind.i64.wrap ((ByteArray.size ((nth TS2 x1 x5).2) : Int) - (ByteArray.size ((nth TS2 x1 (IntKind.i64.wrap (x5 - 1))).2) : Int)))))))) (IntKind.i64.wrap (x5 + 1))).2)))) (IntKind.i64.wrap (x5 - 1)) 1 []) fun t12 =>
    DiffCleanupMerge_l1 K k i0 x0 t12 (IntKind.i64.wrap (x5 + 1)) true))))))))))))))))))))))
   (chk (leI 0 x5) (chk (ltI x5 (List.length x1 : Int)) (chk (leI 0 (IntKind.i64.wrap (x5 + 1))) (chk (ltI (IntKind.i64.wrap (x5 + 1)) (List.length x1 : Int)) (Option.bind (strings_HasPrefix K ((nth TS2 x1 x5).2) ((nth TS2 x1 (IntKind.i64.wrap (x5 + 1))).2)) fun t13 =>
    br t13
    (chk (leI 0 (IntKind.i64.wrap (x5 - 1))) (chk (ltI (IntKind.i64.wrap (x5 - 1)) (List.length x1 : Int)) (chk (leI 0 (IntKind.i64.wrap (x5 + 1))) (chk (ltI (IntKind.i64.wrap (x5 + 1)) (List.length x1 : Int)) (chk (nleI (ByteArray.size ((nth TS2 x1 (IntKind.i64.wrap (x5 - 1))).2) + ByteArray.size ((nth TS2 x1 (IntKind.i64.wrap (x5 + 1))).2)) 9223372036854775807) (chk (leI 0 (IntKind.i64.wrap (x5 - 1))) (chk (ltI (IntKind.i64.wrap (x5 - 1)) (List.length x1 : Int)) (chk (leI 0 x5) (chk (ltI x5 (List.length (List.set x1 (Int.toNat (IntKind.i64.wrap (x5 - 1))) ((nth TS2 x1 (IntKind.i64.wrap (x5 - 1))).1, (ByteArray.append ((nth TS2 x1 (IntKind.i64.wrap (x5 - 1))).2) ((nth TS2 x1 (IntKind.i64.wrap (x5 + 1))).2)))) : Int)) (chk (leI 0 (IntKind.i64.wrap (x5 + 1))) (chk (ltI (IntKind.i64.wrap (x5 + 1)) (List.length (List.set x1 (Int.toNat (IntKind.i64.wrap (x5 - 1))) ((nth TS2 x1 (IntKind.i64.wrap (x5 - 1))).1, (ByteArray.append ((nth TS2 x1 (IntKind.i64.wrap (x5 - 1))).2) ((nth TS2 x1 (IntKind.i64.wrap (x5 + 1))).2)))) : Int)) (chk (leI 0 (ByteArray.size ((nth TS2 (List.set x1 (Int.toNat (IntKind.i64.wrap (x5 - 1))) ((nth TS2 x1 (IntKind.i64.wrap (x5 - 1))).1, (ByteArray.append ((nth TS2 x1 (IntKind.i64.wrap (x5 - 1))).2) ((nth TS2 x1 (IntKind.i64.wrap (x5 + 1))).2)))) (IntKind.i64.wrap (x5 + 1))).2) : Int)) (chk (leI (ByteArray.size ((nth TS2 (List.set x1 (Int.toNat (IntKind.i64.wrap (x5 - 1))) ((nth TS2 x1 (IntKind.i64.wrap (x5 - 1))).1, (ByteArray.append ((nth TS2 x1 (IntKind.i64.wrap (x5 - 1))).2) ((nth TS2 x1 (IntKind.i64.wrap (x5 + 1))).2)))) (IntKind.i64.wrap (x5 + 1))).2) : Int) (ByteArray.size ((nth TS2 (List.set x1 (Int.toNat (IntKind.i64.wrap (x5 - 1))) ((nth TS2 x1 (IntKind.i64.wrap (x5 - 1))).1, (ByteArray.append ((nth TS2 x1 (IntKind.i64.wrap (x5 - 1))).2) ((nth TS2 x1 (IntKind.i64.wrap (x5 + 1))).2)))) x5).2) : Int)) (chk (leI (ByteArray.size ((nth TS2 (List.set x1 (Int.toNat (IntKind.i64.wrap (x5 - 1))) ((nth TS2 x1 (IntKind.i64.wrap (x5 - 1))).1, (ByteArray.append ((nth TS2 x1 (IntKind.i64.wrap (x5 - 1))).2) ((nth TS2 x1 (IntKind.i64.wrap (x5 + 1))).2)))) x5).2) : Int) (ByteArray.size ((nth TS2 (List.set x1 (Int.toNat (IntKind.i64.wrap (x5 - 1))) ((nth TS2 x1 (IntKind.i64.wrap (x5 - 1))).1, (ByteArray.append ((nth TS2 x1 (IntKind.i64.wrap (x5 - 1))).2) ((nth TS2 x1 (IntKind.i64.wrap (x5 + 1))).2)))) x5).2) : Int)) (chk (leI 0 (IntKind.i64.wrap (x5 + 1))) (chk (ltI (IntKind.i64.wrap (x5 + 1)) (List.length (List.set x1 (Int.toNat (IntKind.i64.wrap (x5 - 1))) ((nth TS2 x1 (IntKind.i64.wrap (x5 - 1))).1, (ByteArray.append ((nth TS2 x1 (IntKind.i64.wrap (x5 - 1))).2) ((nth TS2 x1 (IntKind.i64.wrap (x5 + 1))).2)))) : Int)) (chk (nleI (ByteArray.size (ByteArray.extract ((nth TS2 (List.set x1 (Int.toNat (IntKind.i64.wrap (x5 - 1))) ((nth TS2 x1 (IntKind.i64.wrap (x5 - 1))).1, (ByteArray.append ((nth TS2 x1 (IntKind.i64.wrap (x5 - 1))).2) ((nth TS2 x1 (IntKind.i64.wrap (x5 + 1))).2)))) x5).2) (Int.toNat (ByteArray.size ((nth TS2 (List.set x1 (Int.toNat (IntKind.i64.wrap (x5 - 1))) ((nth TS2 x1 (IntKind.i64.wrap (x5 - 1))).1, (ByteArray.append ((nth TS2 x1 (IntKind.i64.wrap (x5 - 1))).2) ((nth TS2 x1 (IntKind.i64.wrap (x5 + 1))).2)))) (IntKind.i64.wrap (x5 + 1))).2) : Int)) (Int.toNat (ByteArray.size ((nth TS2 (List.set x1 (Int.toNat (IntKind.i64.wrap (x5 - 1))) ((nth TS2 x1 (IntKind.i64.wrap (x5 - 1))).1, (ByteArray.append ((nth TS2 x1 (IntKind.i64.wrap (x5 - 1))).2) ((nth TS2 x1 (IntKind.i64.wrap (x5 + 1))).2)))) x5).2) : Int))) + ByteArray.size ((nth TS2 (List.set x1 (Int.toNat (IntKind.i64.wrap (x5 - 1))) ((nth TS2 x1 (IntKind.i64.wrap (x5 - 1))).1, (ByteArray.append ((nth TS2 x1 (IntKind.i64.wrap (x5 - 1))).2) ((nth TS2 x1 (IntKind.i64.wrap (x5 + 1))).2)))) (IntKind.i64.wrap (x5 + 1))).2)) 9223372036854775807) (chk (leI 0 x5) (chk (ltI x5 (List.length (List.set x1 (Int.toNat (IntKind.i64.wrap (x5 - 1))) ((nth TS2 x1 (IntKind.i64.wrap (x5 - 1))).1, (ByteArray.append ((nth TS2 x1 (IntKind.i64.wrap (x5 - 1))).2) ((nth TS2 x1 (IntKind.i64.wrap (x5 + 1))).2)))) : Int)) (Option.bind (splice K (List.set (List.set x1 (Int.toNat (IntKind.i64.wrap (x5 - 1))) ((nth TS2 x1 (IntKind.i64.wrap (x5 - 1))).1, (ByteArray.append ((nth TS2 x1 (IntKind.i64.wrap (x5 - 1))).2) ((nth TS2 x1 (IntKind.i64.wrap (x5 + 1))).2)))) (Int.toNat x5) ((nth TS2 (List.set x1 (Int.toNat (IntKind.i64.wrap (x5 - 1))) ((nth TS2 x1 (IntKind.i64.wrap (x5 - 1))).1, (ByteArray.append ((nth TS2 x1 (IntKind.i64.wrap (x5 - 1))).2) ((nth TS2 x1 (IntKind.i64.wrap (x5 + 1))).2)))) x5).1, (ByteArray.append (ByteArray.extract ((nth TS2 (List.set x1 (Int.toNat (IntKind.i64.wrap (x5 - 1))) ((nth TS2 x1 (IntKind.i64.wrap (x5 - 1))).1, (ByteArray.append ((nth TS2 x1 (IntKind.i64.wrap (x5 - 1))).2) ((nth TS2 x1 (IntKind.i64.wrap (x5 + 1))).2)))) x5).2) (Int.toNat (ByteArray.size ((nth TS2 (List.set x1 (Int.toNat (IntKind.i64.wrap (x5 - 1))) ((nth TS2 x1 (IntKind.i64.wrap (x5 - 1))).1, (ByteArray.append ((nth TS2 x1 (IntKind.i64.wrap (x5 - 1))).2) ((nth TS2 x1 (IntKind.i64.wrap (x5 + 1))).2)))) (IntKind.i64.wrap (x5 + 1))).2) : Int)) (Int.toNat (ByteArray.size ((nth TS2 (List.set x1 (Int.toNat (IntKind.i64.wrap (x5 - 1))) ((nth TS2 x1 (IntKind.i64.wrap (x5 - 1))).1, (ByteArray.append ((nth TS2 x1 (IntKind.i64.wrap (x5 - 1))).2) ((nth TS2 x1 (IntKind.i64.wrap (x5 + 1))).2)))) x5).2) : Int))) ((nth TS2 (List.set x1 (Int.toNat (IntKind.i64.wrap (x5 - 1))) ((nth TS2 x1 (IntKind.i64.wrap (x5 - 1))).1, (ByteArray.append ((nth TS2 x1 (IntKind.i64.wrap (x5 - 1))).2) ((nth TS2 x1 (IntKind.i64.wrap (x5 + 1))).2)))) (IntKind.i64.wrap (x5 + 1))).2)))) (IntKind.i64.wrap (x5 + 1)) 1 []) fun t14 =>
     DiffCleanupMerge_l1 K k i0 x0 t14 (IntKind.i64.wrap (x5 + 1)) true))))))))))))))))))))
    (DiffCleanupMerge_l1 K k i0 x0 x1 (IntKind.i64.wrap (x5 + 1)) x14)))))))))))
  (DiffCleanupMerge_l1 K k i0 x0 x1 (IntKind.i64.wrap (x5 + 1)) x14) := by kernel_rfl
end Go.Proofs.YtmlfecgppnffgaaDoor.E
