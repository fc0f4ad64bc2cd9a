import Derived.Test.YtfglahmbnnkijaaEvT
/- Written by a program of this session (wip/ev4dev): what the functions' places evaluate to. Not trusted: Lean checks it. -/
set_option linter.unusedVariables false
namespace Go.Proofs.Ytfglahmbnnkijaa.E
open Go.Ev
theorem FnUdiffLeast_eq (K : Nat) (x0 : ByteArray) (x1 : ByteArray) : FnUdiffLeast (K + 1) x0 x1 =
  br (ltI (2147483647 : Int) ((ByteArray.size x0) : Int))
  (FnUdiffLeast_j0 K K x0 x1 Bool.true)
  (FnUdiffLeast_j0 K K x0 x1 (ltI (2147483647 : Int) ((ByteArray.size x1) : Int))) := by kernel_rfl
theorem FnUdiffLeast_j0_eq (K k : Nat) (x0 : ByteArray) (x1 : ByteArray) (x13 : Bool) : FnUdiffLeast_j0 K (k + 1) x0 x1 x13 =
  br x13
  (some Bool.true)
  (FnUdiffLeast_j1 K k x0 x1) := by kernel_rfl
theorem FnUdiffLeast_j1_eq (K k : Nat) (x0 : ByteArray) (x1 : ByteArray) : FnUdiffLeast_j1 K (k + 1) x0 x1 =
  Option.bind (CleanChars K x0 (40 : Int)) fun r0 =>
  br (Bool.not r0)
  (FnUdiffLeast_j2 K k x0 x1 Bool.true)
  (Option.bind (CleanChars K x1 (40 : Int)) fun r1 =>
   FnUdiffLeast_j2 K k x0 x1 (Bool.not r1)) := by kernel_rfl
theorem FnUdiffLeast_j2_eq (K k : Nat) (x0 : ByteArray) (x1 : ByteArray) (x21 : Bool) : FnUdiffLeast_j2 K (k + 1) x0 x1 x21 =
  br x21
  (Option.bind (editAwake K) fun r0 =>
   some r0)
  (FnUdiffLeast_j3 K k x0 x1) := by kernel_rfl
theorem FnUdiffLeast_j3_eq (K k : Nat) (x0 : ByteArray) (x1 : ByteArray) : FnUdiffLeast_j3 K (k + 1) x0 x1 =
  Option.bind (EditStrings K x0 x1) fun r0 =>
  Option.bind (editOf K Hp.empty r0) fun r1 =>
  Option.bind (editAwake K) fun r2 =>
  br r2
  (Option.bind (EditsLead K (r1).1 (r1).2 x0 x1) fun r3 =>
   br (r3).2
   (Option.bind (EditSize K (r3).1 x0 (r1).2) fun r4 =>
    Option.bind (EditChars K x0) fun r5 =>
    Option.bind (EditChars K x1) fun r6 =>
    Option.bind (EditLeast K r5 r6) fun r7 =>
    some (eqI (r4).2 r7))
   (some Bool.false))
  (some Bool.false) := by kernel_rfl
theorem FnUdiffOrder_eq (K : Nat) (x0 : ByteArray) (x1 : List TS1.den) : FnUdiffOrder (K + 1) x0 x1 =
  br (ltI (2147483647 : Int) ((ByteArray.size x0) : Int))
  (FnUdiffOrder_j0 K K x0 x1 Bool.true)
  (Option.bind (zzFits8 K x1) fun r0 =>
   FnUdiffOrder_j0 K K x0 x1 (Bool.not r0)) := by kernel_rfl
theorem FnUdiffOrder_j0_eq (K k : Nat) (x0 : ByteArray) (x1 : List (TS1.den)) (x19 : Bool) : FnUdiffOrder_j0 K (k + 1) x0 x1 x19 =
  br x19
  (some Bool.true)
  (FnUdiffOrder_j1 K k x0 x1) := by kernel_rfl
theorem FnUdiffOrder_j1_eq (K k : Nat) (x0 : ByteArray) (x1 : List (TS1.den)) : FnUdiffOrder_j1 K (k + 1) x0 x1 =
  br (ltI (200 : Int) ((ByteArray.size x0) : Int))
  (FnUdiffOrder_j2 K k x0 x1 Bool.true)
  (Option.bind (editFew K x1) fun r0 =>
   FnUdiffOrder_j2 K k x0 x1 (Bool.not r0)) := by kernel_rfl
theorem FnUdiffOrder_j2_eq (K k : Nat) (x0 : ByteArray) (x1 : List (TS1.den)) (x27 : Bool) : FnUdiffOrder_j2 K (k + 1) x0 x1 x27 =
  br x27
  (Option.bind (editAwake K) fun r0 =>
   some r0)
  (FnUdiffOrder_j3 K k x0 x1) := by kernel_rfl
theorem FnUdiffOrder_j3_eq (K k : Nat) (x0 : ByteArray) (x1 : List (TS1.den)) : FnUdiffOrder_j3 K (k + 1) x0 x1 =
  FnUdiffOrder_l0 K k x0 x1 [] (IntKind.wrap IntKind.i64 (((List.length x1) : Int) - (1 : Int))) := by kernel_rfl
theorem FnUdiffOrder_l0_eq (K k : Nat) (x0 : ByteArray) (x1 : List (TS1.den)) (x5 : List (TS1.den)) (x6 : Int) : FnUdiffOrder_l0 K (k + 1) x0 x1 x5 x6 =
  br (leI (0 : Int) x6)
  (FnUdiffOrder_j4 K k x0 x1 x5 x6)
  (FnUdiffOrder_j5 K k x0 x1 x5) := by kernel_rfl
theorem FnUdiffOrder_j4_eq (K k : Nat) (x0 : ByteArray) (x1 : List (TS1.den)) (x5 : List (TS1.den)) (x6 : Int) : FnUdiffOrder_j4 K (k + 1) x0 x1 x5 x6 =
  FnUdiffOrder_l1 K k x0 x1 x5 x6 x6 (0 : Int) := by kernel_rfl
theorem FnUdiffOrder_j5_eq (K k : Nat) (x0 : ByteArray) (x1 : List (TS1.den)) (x5 : List (TS1.den)) : FnUdiffOrder_j5 K (k + 1) x0 x1 x5 =
  Option.bind (editOwn K x1) fun r0 =>
  Option.bind (ApplyEdits K x0 r0) fun r1 =>
  Option.bind (ApplyEdits K x0 x5) fun r2 =>
  Option.bind (editAwake K) fun r3 =>
  br r3
  (br (eqS (r1).1 (r2).1)
   (some (eqS (r1).2 (r2).2))
   (some Bool.false))
  (some Bool.false) := by kernel_rfl
theorem FnUdiffOrder_l1_eq (K k : Nat) (x0 : ByteArray) (x1 : List (TS1.den)) (x5 : List (TS1.den)) (x6 : Int) (x36 : Int) (x37 : Int) : FnUdiffOrder_l1 K (k + 1) x0 x1 x5 x6 x36 x37 =
  br (ltI x37 x36)
  (FnUdiffOrder_j6 K k x0 x1 x5 x6 x36 x37)
  (FnUdiffOrder_j7 K k x0 x1 x5 x6) := by kernel_rfl
theorem FnUdiffOrder_j6_eq (K k : Nat) (x0 : ByteArray) (x1 : List (TS1.den)) (x5 : List (TS1.den)) (x6 : Int) (x36 : Int) (x37 : Int) : FnUdiffOrder_j6 K (k + 1) x0 x1 x5 x6 x36 x37 =
  chk (leI (0 : Int) x6) (chk (ltI x6 ((List.length x1) : Int)) (chk (leI (0 : Int) x37) (chk (ltI x37 ((List.length x1) : Int)) (br (eqI ((nth TS1 x1 x6)).1 ((nth TS1 x1 x37)).1)
  (chk (leI (0 : Int) x6) (chk (ltI x6 ((List.length x1) : Int)) (chk (leI (0 : Int) x37) (chk (ltI x37 ((List.length x1) : Int)) (FnUdiffOrder_j8 K k x0 x1 x5 x6 x36 x37 (eqI (((nth TS1 x1 x6)).2).1 (((nth TS1 x1 x37)).2).1))))))
  (FnUdiffOrder_j8 K k x0 x1 x5 x6 x36 x37 Bool.false))))) := by kernel_rfl
theorem FnUdiffOrder_j7_eq (K k : Nat) (x0 : ByteArray) (x1 : List (TS1.den)) (x5 : List (TS1.den)) (x6 : Int) : FnUdiffOrder_j7 K (k + 1) x0 x1 x5 x6 =
  chk (leI (0 : Int) x6) (chk (ltI x6 ((List.length x1) : Int)) (chk (ltI (((List.length x5) : Int) + ((List.length ((nth TS1 x1 x6) :: [])) : Int)) (1000000000000 : Int)) (FnUdiffOrder_l0 K k x0 x1 (x5 ++ ((nth TS1 x1 x6) :: [])) (IntKind.wrap IntKind.i64 (x6 - (1 : Int)))))) := by kernel_rfl
theorem FnUdiffOrder_j8_eq (K k : Nat) (x0 : ByteArray) (x1 : List (TS1.den)) (x5 : List (TS1.den)) (x6 : Int) (x36 : Int) (x37 : Int) (x63 : Bool) : FnUdiffOrder_j8 K (k + 1) x0 x1 x5 x6 x36 x37 x63 =
  br x63
  (Option.bind (editAwake K) fun r0 =>
   some r0)
  (FnUdiffOrder_l1 K k x0 x1 x5 x6 x36 (IntKind.wrap IntKind.i64 (x37 + (1 : Int)))) := by kernel_rfl
theorem FnUdiffStrings_eq (K : Nat) (x0 : ByteArray) (x1 : ByteArray) : FnUdiffStrings (K + 1) x0 x1 =
  br (ltI (2147483647 : Int) ((ByteArray.size x0) : Int))
  (FnUdiffStrings_j0 K K x0 x1 Bool.true Hp.empty)
  (FnUdiffStrings_j0 K K x0 x1 (ltI (2147483647 : Int) ((ByteArray.size x1) : Int)) Hp.empty) := by kernel_rfl
theorem FnUdiffStrings_j0_eq (K k : Nat) (x0 : ByteArray) (x1 : ByteArray) (x15 : Bool) (h : Hp) : FnUdiffStrings_j0 K (k + 1) x0 x1 x15 h =
  br x15
  (some Bool.true)
  (FnUdiffStrings_j1 K k x0 x1 h) := by kernel_rfl
theorem FnUdiffStrings_j1_eq (K k : Nat) (x0 : ByteArray) (x1 : ByteArray) (h : Hp) : FnUdiffStrings_j1 K (k + 1) x0 x1 h =
  Option.bind (editTexts K x0 x1) fun r0 =>
  br (Bool.not r0)
  (Option.bind (editAwake K) fun r1 =>
   some r1)
  (FnUdiffStrings_j2 K k x0 x1 h) := by kernel_rfl
theorem FnUdiffStrings_j2_eq (K k : Nat) (x0 : ByteArray) (x1 : ByteArray) (h : Hp) : FnUdiffStrings_j2 K (k + 1) x0 x1 h =
  Option.bind (EditStrings K x0 x1) fun r0 =>
  Option.bind (editOf K h r0) fun r1 =>
  br (eqS x0 x1)
  (Option.bind (editAwake K) fun r2 =>
   br r2
   (some (eqI ((rlen (r1).2) : Int) (0 : Int)))
   (some Bool.false))
  (FnUdiffStrings_j3 K k x0 x1 (r1).2 (r1).1) := by kernel_rfl
theorem FnUdiffStrings_j3_eq (K k : Nat) (x0 : ByteArray) (x1 : ByteArray) (x5 : Rf) (h : Hp) : FnUdiffStrings_j3 K (k + 1) x0 x1 x5 h =
  FnUdiffStrings_l0 K k x0 x1 x5 x5 ((rlen x5) : Int) (0 : Int) h := by kernel_rfl
theorem FnUdiffStrings_l0_eq (K k : Nat) (x0 : ByteArray) (x1 : ByteArray) (x5 : Rf) (x34 : Rf) (x35 : Int) (x36 : Int) (h : Hp) : FnUdiffStrings_l0 K (k + 1) x0 x1 x5 x34 x35 x36 h =
  br (ltI x36 x35)
  (FnUdiffStrings_j4 K k x0 x1 x5 x34 x35 x36 h)
  (FnUdiffStrings_j5 K k x0 x1 x5 h) := by kernel_rfl
theorem FnUdiffStrings_j4_eq (K k : Nat) (x0 : ByteArray) (x1 : ByteArray) (x5 : Rf) (x34 : Rf) (x35 : Int) (x36 : Int) (h : Hp) : FnUdiffStrings_j4 K (k + 1) x0 x1 x5 x34 x35 x36 h =
  chk (leI (0 : Int) x36) (chk (ltI x36 ((rlen x34) : Int)) (Option.bind ((Hp.ld h (.p TS1) (radr 3 (Int.toNat x36) x34))) fun r0 =>
  Option.bind (EditChar K x0 (r0).1) fun r1 =>
  br (Bool.not r1)
  (FnUdiffStrings_j6 K k x0 x1 x5 x34 x35 x36 Bool.true h)
  (Option.bind (EditChar K x0 ((r0).2).1) fun r2 =>
   br (Bool.not r2)
   (FnUdiffStrings_j6 K k x0 x1 x5 x34 x35 x36 Bool.true h)
   (Option.bind (CleanChars K ((r0).2).2 (200 : Int)) fun r3 =>
    FnUdiffStrings_j6 K k x0 x1 x5 x34 x35 x36 (Bool.not r3) h)))) := by kernel_rfl
theorem FnUdiffStrings_j5_eq (K k : Nat) (x0 : ByteArray) (x1 : ByteArray) (x5 : Rf) (h : Hp) : FnUdiffStrings_j5 K (k + 1) x0 x1 x5 h =
  Option.bind (editAwake K) fun r0 =>
  br r0
  (Option.bind (EditsLead K h x5 x0 x1) fun r1 =>
   some (r1).2)
  (some Bool.false) := by kernel_rfl
theorem FnUdiffStrings_j6_eq (K k : Nat) (x0 : ByteArray) (x1 : ByteArray) (x5 : Rf) (x34 : Rf) (x35 : Int) (x36 : Int) (x57 : Bool) (h : Hp) : FnUdiffStrings_j6 K (k + 1) x0 x1 x5 x34 x35 x36 x57 h =
  br x57
  (some Bool.false)
  (FnUdiffStrings_l0 K k x0 x1 x5 x34 x35 (IntKind.wrap IntKind.i64 (x36 + (1 : Int))) h) := by kernel_rfl
theorem FnUdiffSort_eq (K : Nat) (x0 : List TS1.den) : FnUdiffSort (K + 1) x0 =
  Option.bind (zzFits8 K x0) fun r0 =>
  br (Bool.not r0)
  (some Bool.true)
  (FnUdiffSort_j0 K K x0) := by kernel_rfl
theorem FnUdiffSort_j0_eq (K k : Nat) (x0 : List (TS1.den)) : FnUdiffSort_j0 K (k + 1) x0 =
  Option.bind (editFew K x0) fun r0 =>
  br (Bool.not r0)
  (Option.bind (editAwake K) fun r1 =>
   some r1)
  (FnUdiffSort_j1 K k x0) := by kernel_rfl
theorem FnUdiffSort_j1_eq (K k : Nat) (x0 : List (TS1.den)) : FnUdiffSort_j1 K (k + 1) x0 =
  Option.bind (editAwake K) fun r0 =>
  br r0
  (Option.bind (editOwn K x0) fun r1 =>
   Option.bind (impl_SortEdits K r1) fun r2 =>
   Option.bind (editOf K Hp.empty r2) fun r3 =>
   Option.bind (editOf K (r3).1 x0) fun r4 =>
   Option.bind (EditsSorted K (r4).1 (r4).2) fun r5 =>
   Option.bind (EditsSame K (r5).1 (r3).2 (r5).2) fun r6 =>
   some (r6).2)
  (some Bool.false) := by kernel_rfl
theorem FnUdiffApply_eq (K : Nat) (x0 : ByteArray) (x1 : List TS1.den) : FnUdiffApply (K + 1) x0 x1 =
  br (ltI (2147483647 : Int) ((ByteArray.size x0) : Int))
  (FnUdiffApply_j0 K K x0 x1 Bool.true Hp.empty)
  (Option.bind (zzFits8 K x1) fun r0 =>
   FnUdiffApply_j0 K K x0 x1 (Bool.not r0) Hp.empty) := by kernel_rfl
theorem FnUdiffApply_j0_eq (K k : Nat) (x0 : ByteArray) (x1 : List (TS1.den)) (x22 : Bool) (h : Hp) : FnUdiffApply_j0 K (k + 1) x0 x1 x22 h =
  br x22
  (some Bool.true)
  (FnUdiffApply_j1 K k x0 x1 h) := by kernel_rfl
theorem FnUdiffApply_j1_eq (K k : Nat) (x0 : ByteArray) (x1 : List (TS1.den)) (h : Hp) : FnUdiffApply_j1 K (k + 1) x0 x1 h =
  br (ltI (200 : Int) ((ByteArray.size x0) : Int))
  (FnUdiffApply_j2 K k x0 x1 Bool.true h)
  (Option.bind (editFew K x1) fun r0 =>
   FnUdiffApply_j2 K k x0 x1 (Bool.not r0) h) := by kernel_rfl
theorem FnUdiffApply_j2_eq (K k : Nat) (x0 : ByteArray) (x1 : List (TS1.den)) (x30 : Bool) (h : Hp) : FnUdiffApply_j2 K (k + 1) x0 x1 x30 h =
  br x30
  (Option.bind (editAwake K) fun r0 =>
   some r0)
  (FnUdiffApply_j3 K k x0 x1 h) := by kernel_rfl
theorem FnUdiffApply_j3_eq (K k : Nat) (x0 : ByteArray) (x1 : List (TS1.den)) (h : Hp) : FnUdiffApply_j3 K (k + 1) x0 x1 h =
  Option.bind (editOwn K x1) fun r0 =>
  Option.bind (ApplyEdits K x0 r0) fun r1 =>
  Option.bind (editOwn K x1) fun r2 =>
  Option.bind (ApplyEditsBytes K (bytesI x0) r2) fun r3 =>
  Option.bind (editOf K h x1) fun r4 =>
  Option.bind (EditsSorted K (r4).1 (r4).2) fun r5 =>
  Option.bind (EditsIn K (r5).1 (r5).2 ((ByteArray.size x0) : Int)) fun r6 =>
  Option.bind (EditsApart K (r6).1 (r5).2) fun r7 =>
  br (Bool.not (r6).2)
  (FnUdiffApply_j4 K k x0 (r1).1 (r1).2 (r3).1 (r3).2 (r5).2 (r6).2 (r7).2 Bool.true (r7).1)
  (FnUdiffApply_j4 K k x0 (r1).1 (r1).2 (r3).1 (r3).2 (r5).2 (r6).2 (r7).2 (Bool.not (r7).2) (r7).1) := by kernel_rfl
theorem FnUdiffApply_j4_eq (K k : Nat) (x0 : ByteArray) (x5 : ByteArray) (x6 : ByteArray) (x7 : List (Int)) (x8 : ByteArray) (x9 : Rf) (x10 : Bool) (x11 : Bool) (x61 : Bool) (h : Hp) : FnUdiffApply_j4 K (k + 1) x0 x5 x6 x7 x8 x9 x10 x11 x61 h =
  br x61
  (br (Bool.not (eqS x6 x8))
   (FnUdiffApply_j5 K k x6 (ByteArray.mk (List.toArray ((100 : UInt8) :: ((105 : UInt8) :: ((102 : UInt8) :: ((102 : UInt8) :: ((32 : UInt8) :: ((104 : UInt8) :: ((97 : UInt8) :: ((115 : UInt8) :: ((32 : UInt8) :: ((111 : UInt8) :: ((117 : UInt8) :: ((116 : UInt8) :: ((45 : UInt8) :: ((111 : UInt8) :: ((102 : UInt8) :: ((45 : UInt8) :: ((98 : UInt8) :: ((111 : UInt8) :: ((117 : UInt8) :: ((110 : UInt8) :: ((100 : UInt8) :: ((115 : UInt8) :: ((32 : UInt8) :: ((101 : UInt8) :: ((100 : UInt8) :: ((105 : UInt8) :: ((116 : UInt8) :: ((115 : UInt8) :: [])))))))))))))))))))))))))))))) (ByteArray.mk (List.toArray ((100 : UInt8) :: ((105 : UInt8) :: ((102 : UInt8) :: ((102 : UInt8) :: ((32 : UInt8) :: ((104 : UInt8) :: ((97 : UInt8) :: ((115 : UInt8) :: ((32 : UInt8) :: ((111 : UInt8) :: ((118 : UInt8) :: ((101 : UInt8) :: ((114 : UInt8) :: ((108 : UInt8) :: ((97 : UInt8) :: ((112 : UInt8) :: ((112 : UInt8) :: ((105 : UInt8) :: ((110 : UInt8) :: ((103 : UInt8) :: ((32 : UInt8) :: ((101 : UInt8) :: ((100 : UInt8) :: ((105 : UInt8) :: ((116 : UInt8) :: ((115 : UInt8) :: [])))))))))))))))))))))))))))) Bool.true h)
   (br (Bool.not (eqS x5 (ByteArray.mk (List.toArray []))))
    (FnUdiffApply_j5 K k x6 (ByteArray.mk (List.toArray ((100 : UInt8) :: ((105 : UInt8) :: ((102 : UInt8) :: ((102 : UInt8) :: ((32 : UInt8) :: ((104 : UInt8) :: ((97 : UInt8) :: ((115 : UInt8) :: ((32 : UInt8) :: ((111 : UInt8) :: ((117 : UInt8) :: ((116 : UInt8) :: ((45 : UInt8) :: ((111 : UInt8) :: ((102 : UInt8) :: ((45 : UInt8) :: ((98 : UInt8) :: ((111 : UInt8) :: ((117 : UInt8) :: ((110 : UInt8) :: ((100 : UInt8) :: ((115 : UInt8) :: ((32 : UInt8) :: ((101 : UInt8) :: ((100 : UInt8) :: ((105 : UInt8) :: ((116 : UInt8) :: ((115 : UInt8) :: [])))))))))))))))))))))))))))))) (ByteArray.mk (List.toArray ((100 : UInt8) :: ((105 : UInt8) :: ((102 : UInt8) :: ((102 : UInt8) :: ((32 : UInt8) :: ((104 : UInt8) :: ((97 : UInt8) :: ((115 : UInt8) :: ((32 : UInt8) :: ((111 : UInt8) :: ((118 : UInt8) :: ((101 : UInt8) :: ((114 : UInt8) :: ((108 : UInt8) :: ((97 : UInt8) :: ((112 : UInt8) :: ((112 : UInt8) :: ((105 : UInt8) :: ((110 : UInt8) :: ((103 : UInt8) :: ((32 : UInt8) :: ((101 : UInt8) :: ((100 : UInt8) :: ((105 : UInt8) :: ((116 : UInt8) :: ((115 : UInt8) :: [])))))))))))))))))))))))))))) Bool.true h)
    (br (ltI (0 : Int) ((List.length x7) : Int))
     (FnUdiffApply_j5 K k x6 (ByteArray.mk (List.toArray ((100 : UInt8) :: ((105 : UInt8) :: ((102 : UInt8) :: ((102 : UInt8) :: ((32 : UInt8) :: ((104 : UInt8) :: ((97 : UInt8) :: ((115 : UInt8) :: ((32 : UInt8) :: ((111 : UInt8) :: ((117 : UInt8) :: ((116 : UInt8) :: ((45 : UInt8) :: ((111 : UInt8) :: ((102 : UInt8) :: ((45 : UInt8) :: ((98 : UInt8) :: ((111 : UInt8) :: ((117 : UInt8) :: ((110 : UInt8) :: ((100 : UInt8) :: ((115 : UInt8) :: ((32 : UInt8) :: ((101 : UInt8) :: ((100 : UInt8) :: ((105 : UInt8) :: ((116 : UInt8) :: ((115 : UInt8) :: [])))))))))))))))))))))))))))))) (ByteArray.mk (List.toArray ((100 : UInt8) :: ((105 : UInt8) :: ((102 : UInt8) :: ((102 : UInt8) :: ((32 : UInt8) :: ((104 : UInt8) :: ((97 : UInt8) :: ((115 : UInt8) :: ((32 : UInt8) :: ((111 : UInt8) :: ((118 : UInt8) :: ((101 : UInt8) :: ((114 : UInt8) :: ((108 : UInt8) :: ((97 : UInt8) :: ((112 : UInt8) :: ((112 : UInt8) :: ((105 : UInt8) :: ((110 : UInt8) :: ((103 : UInt8) :: ((32 : UInt8) :: ((101 : UInt8) :: ((100 : UInt8) :: ((105 : UInt8) :: ((116 : UInt8) :: ((115 : UInt8) :: [])))))))))))))))))))))))))))) Bool.true h)
     (br x10
      (br (Bool.not (eqS x6 (ByteArray.mk (List.toArray ((100 : UInt8) :: ((105 : UInt8) :: ((102 : UInt8) :: ((102 : UInt8) :: ((32 : UInt8) :: ((104 : UInt8) :: ((97 : UInt8) :: ((115 : UInt8) :: ((32 : UInt8) :: ((111 : UInt8) :: ((118 : UInt8) :: ((101 : UInt8) :: ((114 : UInt8) :: ((108 : UInt8) :: ((97 : UInt8) :: ((112 : UInt8) :: ((112 : UInt8) :: ((105 : UInt8) :: ((110 : UInt8) :: ((103 : UInt8) :: ((32 : UInt8) :: ((101 : UInt8) :: ((100 : UInt8) :: ((105 : UInt8) :: ((116 : UInt8) :: ((115 : UInt8) :: []))))))))))))))))))))))))))))))
       (FnUdiffApply_j5 K k x6 (ByteArray.mk (List.toArray ((100 : UInt8) :: ((105 : UInt8) :: ((102 : UInt8) :: ((102 : UInt8) :: ((32 : UInt8) :: ((104 : UInt8) :: ((97 : UInt8) :: ((115 : UInt8) :: ((32 : UInt8) :: ((111 : UInt8) :: ((117 : UInt8) :: ((116 : UInt8) :: ((45 : UInt8) :: ((111 : UInt8) :: ((102 : UInt8) :: ((45 : UInt8) :: ((98 : UInt8) :: ((111 : UInt8) :: ((117 : UInt8) :: ((110 : UInt8) :: ((100 : UInt8) :: ((115 : UInt8) :: ((32 : UInt8) :: ((101 : UInt8) :: ((100 : UInt8) :: ((105 : UInt8) :: ((116 : UInt8) :: ((115 : UInt8) :: [])))))))))))))))))))))))))))))) (ByteArray.mk (List.toArray ((100 : UInt8) :: ((105 : UInt8) :: ((102 : UInt8) :: ((102 : UInt8) :: ((32 : UInt8) :: ((104 : UInt8) :: ((97 : UInt8) :: ((115 : UInt8) :: ((32 : UInt8) :: ((111 : UInt8) :: ((118 : UInt8) :: ((101 : UInt8) :: ((114 : UInt8) :: ((108 : UInt8) :: ((97 : UInt8) :: ((112 : UInt8) :: ((112 : UInt8) :: ((105 : UInt8) :: ((110 : UInt8) :: ((103 : UInt8) :: ((32 : UInt8) :: ((101 : UInt8) :: ((100 : UInt8) :: ((105 : UInt8) :: ((116 : UInt8) :: ((115 : UInt8) :: [])))))))))))))))))))))))))))) Bool.true h)
       (br x11
        (FnUdiffApply_j5 K k x6 (ByteArray.mk (List.toArray ((100 : UInt8) :: ((105 : UInt8) :: ((102 : UInt8) :: ((102 : UInt8) :: ((32 : UInt8) :: ((104 : UInt8) :: ((97 : UInt8) :: ((115 : UInt8) :: ((32 : UInt8) :: ((111 : UInt8) :: ((117 : UInt8) :: ((116 : UInt8) :: ((45 : UInt8) :: ((111 : UInt8) :: ((102 : UInt8) :: ((45 : UInt8) :: ((98 : UInt8) :: ((111 : UInt8) :: ((117 : UInt8) :: ((110 : UInt8) :: ((100 : UInt8) :: ((115 : UInt8) :: ((32 : UInt8) :: ((101 : UInt8) :: ((100 : UInt8) :: ((105 : UInt8) :: ((116 : UInt8) :: ((115 : UInt8) :: [])))))))))))))))))))))))))))))) (ByteArray.mk (List.toArray ((100 : UInt8) :: ((105 : UInt8) :: ((102 : UInt8) :: ((102 : UInt8) :: ((32 : UInt8) :: ((104 : UInt8) :: ((97 : UInt8) :: ((115 : UInt8) :: ((32 : UInt8) :: ((111 : UInt8) :: ((118 : UInt8) :: ((101 : UInt8) :: ((114 : UInt8) :: ((108 : UInt8) :: ((97 : UInt8) :: ((112 : UInt8) :: ((112 : UInt8) :: ((105 : UInt8) :: ((110 : UInt8) :: ((103 : UInt8) :: ((32 : UInt8) :: ((101 : UInt8) :: ((100 : UInt8) :: ((105 : UInt8) :: ((116 : UInt8) :: ((115 : UInt8) :: [])))))))))))))))))))))))))))) (Bool.not (eqS x6 (ByteArray.mk (List.toArray ((100 : UInt8) :: ((105 : UInt8) :: ((102 : UInt8) :: ((102 : UInt8) :: ((32 : UInt8) :: ((104 : UInt8) :: ((97 : UInt8) :: ((115 : UInt8) :: ((32 : UInt8) :: ((111 : UInt8) :: ((117 : UInt8) :: ((116 : UInt8) :: ((45 : UInt8) :: ((111 : UInt8) :: ((102 : UInt8) :: ((45 : UInt8) :: ((98 : UInt8) :: ((111 : UInt8) :: ((117 : UInt8) :: ((110 : UInt8) :: ((100 : UInt8) :: ((115 : UInt8) :: ((32 : UInt8) :: ((101 : UInt8) :: ((100 : UInt8) :: ((105 : UInt8) :: ((116 : UInt8) :: ((115 : UInt8) :: [])))))))))))))))))))))))))))))))) h)
        (FnUdiffApply_j5 K k x6 (ByteArray.mk (List.toArray ((100 : UInt8) :: ((105 : UInt8) :: ((102 : UInt8) :: ((102 : UInt8) :: ((32 : UInt8) :: ((104 : UInt8) :: ((97 : UInt8) :: ((115 : UInt8) :: ((32 : UInt8) :: ((111 : UInt8) :: ((117 : UInt8) :: ((116 : UInt8) :: ((45 : UInt8) :: ((111 : UInt8) :: ((102 : UInt8) :: ((45 : UInt8) :: ((98 : UInt8) :: ((111 : UInt8) :: ((117 : UInt8) :: ((110 : UInt8) :: ((100 : UInt8) :: ((115 : UInt8) :: ((32 : UInt8) :: ((101 : UInt8) :: ((100 : UInt8) :: ((105 : UInt8) :: ((116 : UInt8) :: ((115 : UInt8) :: [])))))))))))))))))))))))))))))) (ByteArray.mk (List.toArray ((100 : UInt8) :: ((105 : UInt8) :: ((102 : UInt8) :: ((102 : UInt8) :: ((32 : UInt8) :: ((104 : UInt8) :: ((97 : UInt8) :: ((115 : UInt8) :: ((32 : UInt8) :: ((111 : UInt8) :: ((118 : UInt8) :: ((101 : UInt8) :: ((114 : UInt8) :: ((108 : UInt8) :: ((97 : UInt8) :: ((112 : UInt8) :: ((112 : UInt8) :: ((105 : UInt8) :: ((110 : UInt8) :: ((103 : UInt8) :: ((32 : UInt8) :: ((101 : UInt8) :: ((100 : UInt8) :: ((105 : UInt8) :: ((116 : UInt8) :: ((115 : UInt8) :: [])))))))))))))))))))))))))))) Bool.false h)))
      (br x11
       (FnUdiffApply_j5 K k x6 (ByteArray.mk (List.toArray ((100 : UInt8) :: ((105 : UInt8) :: ((102 : UInt8) :: ((102 : UInt8) :: ((32 : UInt8) :: ((104 : UInt8) :: ((97 : UInt8) :: ((115 : UInt8) :: ((32 : UInt8) :: ((111 : UInt8) :: ((117 : UInt8) :: ((116 : UInt8) :: ((45 : UInt8) :: ((111 : UInt8) :: ((102 : UInt8) :: ((45 : UInt8) :: ((98 : UInt8) :: ((111 : UInt8) :: ((117 : UInt8) :: ((110 : UInt8) :: ((100 : UInt8) :: ((115 : UInt8) :: ((32 : UInt8) :: ((101 : UInt8) :: ((100 : UInt8) :: ((105 : UInt8) :: ((116 : UInt8) :: ((115 : UInt8) :: [])))))))))))))))))))))))))))))) (ByteArray.mk (List.toArray ((100 : UInt8) :: ((105 : UInt8) :: ((102 : UInt8) :: ((102 : UInt8) :: ((32 : UInt8) :: ((104 : UInt8) :: ((97 : UInt8) :: ((115 : UInt8) :: ((32 : UInt8) :: ((111 : UInt8) :: ((118 : UInt8) :: ((101 : UInt8) :: ((114 : UInt8) :: ((108 : UInt8) :: ((97 : UInt8) :: ((112 : UInt8) :: ((112 : UInt8) :: ((105 : UInt8) :: ((110 : UInt8) :: ((103 : UInt8) :: ((32 : UInt8) :: ((101 : UInt8) :: ((100 : UInt8) :: ((105 : UInt8) :: ((116 : UInt8) :: ((115 : UInt8) :: [])))))))))))))))))))))))))))) (Bool.not (eqS x6 (ByteArray.mk (List.toArray ((100 : UInt8) :: ((105 : UInt8) :: ((102 : UInt8) :: ((102 : UInt8) :: ((32 : UInt8) :: ((104 : UInt8) :: ((97 : UInt8) :: ((115 : UInt8) :: ((32 : UInt8) :: ((111 : UInt8) :: ((117 : UInt8) :: ((116 : UInt8) :: ((45 : UInt8) :: ((111 : UInt8) :: ((102 : UInt8) :: ((45 : UInt8) :: ((98 : UInt8) :: ((111 : UInt8) :: ((117 : UInt8) :: ((110 : UInt8) :: ((100 : UInt8) :: ((115 : UInt8) :: ((32 : UInt8) :: ((101 : UInt8) :: ((100 : UInt8) :: ((105 : UInt8) :: ((116 : UInt8) :: ((115 : UInt8) :: [])))))))))))))))))))))))))))))))) h)
       (FnUdiffApply_j5 K k x6 (ByteArray.mk (List.toArray ((100 : UInt8) :: ((105 : UInt8) :: ((102 : UInt8) :: ((102 : UInt8) :: ((32 : UInt8) :: ((104 : UInt8) :: ((97 : UInt8) :: ((115 : UInt8) :: ((32 : UInt8) :: ((111 : UInt8) :: ((117 : UInt8) :: ((116 : UInt8) :: ((45 : UInt8) :: ((111 : UInt8) :: ((102 : UInt8) :: ((45 : UInt8) :: ((98 : UInt8) :: ((111 : UInt8) :: ((117 : UInt8) :: ((110 : UInt8) :: ((100 : UInt8) :: ((115 : UInt8) :: ((32 : UInt8) :: ((101 : UInt8) :: ((100 : UInt8) :: ((105 : UInt8) :: ((116 : UInt8) :: ((115 : UInt8) :: [])))))))))))))))))))))))))))))) (ByteArray.mk (List.toArray ((100 : UInt8) :: ((105 : UInt8) :: ((102 : UInt8) :: ((102 : UInt8) :: ((32 : UInt8) :: ((104 : UInt8) :: ((97 : UInt8) :: ((115 : UInt8) :: ((32 : UInt8) :: ((111 : UInt8) :: ((118 : UInt8) :: ((101 : UInt8) :: ((114 : UInt8) :: ((108 : UInt8) :: ((97 : UInt8) :: ((112 : UInt8) :: ((112 : UInt8) :: ((105 : UInt8) :: ((110 : UInt8) :: ((103 : UInt8) :: ((32 : UInt8) :: ((101 : UInt8) :: ((100 : UInt8) :: ((105 : UInt8) :: ((116 : UInt8) :: ((115 : UInt8) :: [])))))))))))))))))))))))))))) Bool.false h))))))
  (FnUdiffApply_j6 K k x0 x5 x6 x7 x8 x9 h) := by kernel_rfl
theorem FnUdiffApply_j5_eq (K k : Nat) (x6 : ByteArray) (x12 : ByteArray) (x13 : ByteArray) (x89 : Bool) (h : Hp) : FnUdiffApply_j5 K (k + 1) x6 x12 x13 x89 h =
  br x89
  (some Bool.false)
  (FnUdiffApply_j7 K k x6 x12 x13 h) := by kernel_rfl
theorem FnUdiffApply_j6_eq (K k : Nat) (x0 : ByteArray) (x5 : ByteArray) (x6 : ByteArray) (x7 : List (Int)) (x8 : ByteArray) (x9 : Rf) (h : Hp) : FnUdiffApply_j6 K (k + 1) x0 x5 x6 x7 x8 x9 h =
  Option.bind (EditsApplied K h x0 x9) fun r0 =>
  Option.bind (editAwake K) fun r1 =>
  br r1
  (br (eqS x6 (ByteArray.mk (List.toArray [])))
   (br (eqS x8 (ByteArray.mk (List.toArray [])))
    (br (eqS x5 (r0).2)
     (some (eqS (strOfBytes x7) (r0).2))
     (some Bool.false))
    (some Bool.false))
   (some Bool.false))
  (some Bool.false) := by kernel_rfl
theorem FnUdiffApply_j7_eq (K k : Nat) (x6 : ByteArray) (x12 : ByteArray) (x13 : ByteArray) (h : Hp) : FnUdiffApply_j7 K (k + 1) x6 x12 x13 h =
  Option.bind (editAwake K) fun r0 =>
  br r0
  (br (eqS x6 x12)
   (some Bool.true)
   (some (eqS x6 x13)))
  (some Bool.false) := by kernel_rfl
theorem FnUdiffMerge_eq (K : Nat) (x0 : List TS1.den) (x1 : List TS1.den) : FnUdiffMerge (K + 1) x0 x1 =
  Option.bind (zzFits8 K x0) fun r0 =>
  br (Bool.not r0)
  (FnUdiffMerge_j0 K K x0 x1 Bool.true Hp.empty)
  (Option.bind (zzFits8 K x1) fun r1 =>
   FnUdiffMerge_j0 K K x0 x1 (Bool.not r1) Hp.empty) := by kernel_rfl
theorem FnUdiffMerge_j0_eq (K k : Nat) (x0 : List (TS1.den)) (x1 : List (TS1.den)) (x21 : Bool) (h : Hp) : FnUdiffMerge_j0 K (k + 1) x0 x1 x21 h =
  br x21
  (some Bool.true)
  (FnUdiffMerge_j1 K k x0 x1 h) := by kernel_rfl
theorem FnUdiffMerge_j1_eq (K k : Nat) (x0 : List (TS1.den)) (x1 : List (TS1.den)) (h : Hp) : FnUdiffMerge_j1 K (k + 1) x0 x1 h =
  Option.bind (editFew K x0) fun r0 =>
  br (Bool.not r0)
  (FnUdiffMerge_j2 K k x0 x1 Bool.true h)
  (Option.bind (editFew K x1) fun r1 =>
   br (Bool.not r1)
   (FnUdiffMerge_j2 K k x0 x1 Bool.true h)
   (Option.bind (editWide K x0) fun r2 =>
    br (Bool.not r2)
    (FnUdiffMerge_j2 K k x0 x1 Bool.true h)
    (Option.bind (editWide K x1) fun r3 =>
     FnUdiffMerge_j2 K k x0 x1 (Bool.not r3) h))) := by kernel_rfl
theorem FnUdiffMerge_j2_eq (K k : Nat) (x0 : List (TS1.den)) (x1 : List (TS1.den)) (x39 : Bool) (h : Hp) : FnUdiffMerge_j2 K (k + 1) x0 x1 x39 h =
  br x39
  (Option.bind (editAwake K) fun r0 =>
   some r0)
  (FnUdiffMerge_j3 K k x0 x1 h) := by kernel_rfl
theorem FnUdiffMerge_j3_eq (K k : Nat) (x0 : List (TS1.den)) (x1 : List (TS1.den)) (h : Hp) : FnUdiffMerge_j3 K (k + 1) x0 x1 h =
  Option.bind (editOwn K x0) fun r0 =>
  Option.bind (editOwn K x0) fun r1 =>
  Option.bind (MergeEdits K r0 r1) fun r2 =>
  br (Bool.not (r2).2)
  (FnUdiffMerge_j4 K k x0 x1 Bool.true h)
  (Option.bind (editOf K h (r2).1) fun r3 =>
   Option.bind (editOf K (r3).1 x0) fun r4 =>
   Option.bind (EditsSame K (r4).1 (r3).2 (r4).2) fun r5 =>
   FnUdiffMerge_j4 K k x0 x1 (Bool.not (r5).2) (r5).1) := by kernel_rfl
theorem FnUdiffMerge_j4_eq (K k : Nat) (x0 : List (TS1.den)) (x1 : List (TS1.den)) (x58 : Bool) (h : Hp) : FnUdiffMerge_j4 K (k + 1) x0 x1 x58 h =
  br x58
  (some Bool.false)
  (FnUdiffMerge_j5 K k x0 x1 h) := by kernel_rfl
theorem FnUdiffMerge_j5_eq (K k : Nat) (x0 : List (TS1.den)) (x1 : List (TS1.den)) (h : Hp) : FnUdiffMerge_j5 K (k + 1) x0 x1 h =
  Option.bind (editOwn K x0) fun r0 =>
  chk (ltI (((List.length r0) : Int) + ((List.length x1) : Int)) (1000000000000 : Int)) (Option.bind (editOf K h (r0 ++ x1)) fun r1 =>
  Option.bind (EditsSorted K (r1).1 (r1).2) fun r2 =>
  FnUdiffMerge_l0 K k x0 x1 (r2).2 (1 : Int) (r2).1) := by kernel_rfl
theorem FnUdiffMerge_l0_eq (K k : Nat) (x0 : List (TS1.den)) (x1 : List (TS1.den)) (x8 : Rf) (x9 : Int) (h : Hp) : FnUdiffMerge_l0 K (k + 1) x0 x1 x8 x9 h =
  br (ltI x9 ((rlen x8) : Int))
  (FnUdiffMerge_j6 K k x0 x1 x8 x9 h)
  (FnUdiffMerge_j7 K k x0 x1 x8 h) := by kernel_rfl
theorem FnUdiffMerge_j6_eq (K k : Nat) (x0 : List (TS1.den)) (x1 : List (TS1.den)) (x8 : Rf) (x9 : Int) (h : Hp) : FnUdiffMerge_j6 K (k + 1) x0 x1 x8 x9 h =
  chk (leI (0 : Int) x9) (chk (ltI x9 ((rlen x8) : Int)) (chk (Bool.not (pnil (radr 3 (Int.toNat x9) x8))) (Option.bind ((Hp.ld h (.p (.int (.i64))) (padd 0 (radr 3 (Int.toNat x9) x8)))) fun r0 =>
  chk (leI (0 : Int) (IntKind.wrap IntKind.i64 (x9 - (1 : Int)))) (chk (ltI (IntKind.wrap IntKind.i64 (x9 - (1 : Int))) ((rlen x8) : Int)) (chk (Bool.not (pnil (radr 3 (Int.toNat (IntKind.wrap IntKind.i64 (x9 - (1 : Int)))) x8))) (Option.bind ((Hp.ld h (.p (.int (.i64))) (padd 1 (radr 3 (Int.toNat (IntKind.wrap IntKind.i64 (x9 - (1 : Int)))) x8)))) fun r1 =>
  br (leI r0 r1)
  (Option.bind (editAwake K) fun r2 =>
   some r2)
  (FnUdiffMerge_l0 K k x0 x1 x8 (IntKind.wrap IntKind.i64 (x9 + (1 : Int))) h))))))) := by kernel_rfl
theorem FnUdiffMerge_j7_eq (K k : Nat) (x0 : List (TS1.den)) (x1 : List (TS1.den)) (x8 : Rf) (h : Hp) : FnUdiffMerge_j7 K (k + 1) x0 x1 x8 h =
  Option.bind (editOwn K x0) fun r0 =>
  Option.bind (editOwn K x1) fun r1 =>
  Option.bind (MergeEdits K r0 r1) fun r2 =>
  Option.bind (editOwn K x1) fun r3 =>
  Option.bind (editOwn K x0) fun r4 =>
  Option.bind (MergeEdits K r3 r4) fun r5 =>
  Option.bind (editAwake K) fun r6 =>
  br r6
  (br (r2).2
   (br (r5).2
    (Option.bind (editOf K h (r2).1) fun r7 =>
     Option.bind (EditsSame K (r7).1 (r7).2 x8) fun r8 =>
     br (r8).2
     (Option.bind (editOf K (r8).1 (r5).1) fun r9 =>
      Option.bind (EditsSame K (r9).1 (r9).2 x8) fun r10 =>
      some (r10).2)
     (some Bool.false))
    (some Bool.false))
   (some Bool.false))
  (some Bool.false) := by kernel_rfl
theorem CleanChars_eq (K : Nat) (x0 : ByteArray) (x1 : Int) : CleanChars (K + 1) x0 x1 =
  br (leI ((ByteArray.size x0) : Int) x1)
  (chk (nleI (List.length (runesI x0)) 70368744177664) (some (eqS (strOfRunes (runesI x0)) x0)))
  (some Bool.false) := by kernel_rfl
theorem editAwake_eq (K : Nat) : editAwake (K + 1) =
  Option.bind (ApplyEdits K (ByteArray.mk (List.toArray ((97 : UInt8) :: ((98 : UInt8) :: ((99 : UInt8) :: []))))) (((1 : Int), ((2 : Int), (ByteArray.mk (List.toArray ((120 : UInt8) :: []))))) :: [])) fun r0 =>
  Option.bind (EditStrings K (ByteArray.mk (List.toArray ((97 : UInt8) :: ((98 : UInt8) :: ((99 : UInt8) :: []))))) (ByteArray.mk (List.toArray ((97 : UInt8) :: ((120 : UInt8) :: ((99 : UInt8) :: [])))))) fun r1 =>
  br (eqS (r0).1 (ByteArray.mk (List.toArray ((97 : UInt8) :: ((120 : UInt8) :: ((99 : UInt8) :: []))))))
  (br (eqS (r0).2 (ByteArray.mk (List.toArray [])))
   (br (eqI ((List.length r1) : Int) (1 : Int))
    (chk (leI (0 : Int) (0 : Int)) (chk (ltI (0 : Int) ((List.length r1) : Int)) (some (Bool.and (eqI ((nth TS1 r1 (0 : Int))).1 (1 : Int)) (Bool.and (eqI (((nth TS1 r1 (0 : Int))).2).1 (2 : Int)) (eqS (((nth TS1 r1 (0 : Int))).2).2 (ByteArray.mk (List.toArray ((120 : UInt8) :: [])))))))))
    (some Bool.false))
   (some Bool.false))
  (some Bool.false) := by kernel_rfl
theorem editOf_eq (K : Nat) (x0 : Hp) (x1 : List TS1.den) : editOf (K + 1) x0 x1 =
  editOf_l0 K K Rf.nil x1 ((List.length x1) : Int) (0 : Int) x0 := by kernel_rfl
theorem editOf_l0_eq (K k : Nat) (x3 : Rf) (x6 : List (TS1.den)) (x7 : Int) (x8 : Int) (h : Hp) : editOf_l0 K (k + 1) x3 x6 x7 x8 h =
  br (ltI x8 x7)
  (editOf_j0 K k x3 x6 x7 x8 h)
  (some (h, x3)) := by kernel_rfl
theorem editOf_j0_eq (K k : Nat) (x3 : Rf) (x6 : List (TS1.den)) (x7 : Int) (x8 : Int) (h : Hp) : editOf_j0 K (k + 1) x3 x6 x7 x8 h =
  chk (leI (0 : Int) x8) (chk (ltI x8 ((List.length x6) : Int)) (Option.bind ((Hp.cs (Hp.new h (41 : TypeId) (.p TS1) ((nth TS1 x6 x8) :: [])) 3 (Rf.at (h).1 0 1))) fun r0 =>
  chk (ltI (((rlen x3) : Int) + ((r0).2 : Int)) (1000000000000 : Int)) (Option.bind ((Hp.app (Hp.new h (41 : TypeId) (.p TS1) ((nth TS1 x6 x8) :: [])) (41 : TypeId) 3 (r0).1 (r0).2 x3)) fun r1 =>
  editOf_l0 K k (r1).1 x6 x7 (IntKind.wrap IntKind.i64 (x8 + (1 : Int))) (r1).2))) := by kernel_rfl
theorem EditStrings_eq (K : Nat) (x0 : ByteArray) (x1 : ByteArray) : EditStrings (K + 1) x0 x1 =
  Option.bind (Strings K Hp.empty x0 x1) fun r0 =>
  Option.bind (backEdits K (r0).1 (r0).2) fun r1 =>
  some (r1).2 := by kernel_rfl
theorem EditsLead_eq (K : Nat) (x0 : Hp) (x1 : Rf) (x2 : ByteArray) (x3 : ByteArray) : EditsLead (K + 1) x0 x1 x2 x3 =
  Option.bind (EditsIn K x0 x1 ((ByteArray.size x2) : Int)) fun r0 =>
  br (Bool.not (r0).2)
  (EditsLead_j0 K K x1 x2 x3 Bool.true (r0).1)
  (Option.bind (EditsApart K (r0).1 x1) fun r1 =>
   EditsLead_j0 K K x1 x2 x3 (Bool.not (r1).2) (r1).1) := by kernel_rfl
theorem EditsLead_j0_eq (K k : Nat) (x0 : Rf) (x1 : ByteArray) (x2 : ByteArray) (x17 : Bool) (h : Hp) : EditsLead_j0 K (k + 1) x0 x1 x2 x17 h =
  br x17
  (some (h, Bool.false))
  (EditsLead_j1 K k x0 x1 x2 h) := by kernel_rfl
theorem EditsLead_j1_eq (K k : Nat) (x0 : Rf) (x1 : ByteArray) (x2 : ByteArray) (h : Hp) : EditsLead_j1 K (k + 1) x0 x1 x2 h =
  EditsLead_l0 K k x0 x1 x2 (1 : Int) h := by kernel_rfl
theorem EditsLead_l0_eq (K k : Nat) (x0 : Rf) (x1 : ByteArray) (x2 : ByteArray) (x7 : Int) (h : Hp) : EditsLead_l0 K (k + 1) x0 x1 x2 x7 h =
  br (ltI x7 ((rlen x0) : Int))
  (EditsLead_j2 K k x0 x1 x2 x7 h)
  (EditsLead_j3 K k x0 x1 x2 h) := by kernel_rfl
theorem EditsLead_j2_eq (K k : Nat) (x0 : Rf) (x1 : ByteArray) (x2 : ByteArray) (x7 : Int) (h : Hp) : EditsLead_j2 K (k + 1) x0 x1 x2 x7 h =
  chk (leI (0 : Int) x7) (chk (ltI x7 ((rlen x0) : Int)) (Option.bind ((Hp.ld h (.p TS1) (radr 3 (Int.toNat x7) x0))) fun r0 =>
  chk (leI (0 : Int) (IntKind.wrap IntKind.i64 (x7 - (1 : Int)))) (chk (ltI (IntKind.wrap IntKind.i64 (x7 - (1 : Int))) ((rlen x0) : Int)) (Option.bind ((Hp.ld h (.p TS1) (radr 3 (Int.toNat (IntKind.wrap IntKind.i64 (x7 - (1 : Int)))) x0))) fun r1 =>
  Option.bind (EditBefore K r0 r1) fun r2 =>
  br r2
  (some (h, Bool.false))
  (EditsLead_l0 K k x0 x1 x2 (IntKind.wrap IntKind.i64 (x7 + (1 : Int))) h))))) := by kernel_rfl
theorem EditsLead_j3_eq (K k : Nat) (x0 : Rf) (x1 : ByteArray) (x2 : ByteArray) (h : Hp) : EditsLead_j3 K (k + 1) x0 x1 x2 h =
  Option.bind (EditsApplied K h x1 x0) fun r0 =>
  some ((r0).1, (eqS (r0).2 x2)) := by kernel_rfl
theorem EditSize_eq (K : Nat) (x0 : Hp) (x1 : ByteArray) (x2 : Rf) : EditSize (K + 1) x0 x1 x2 =
  EditSize_l0 K K x1 (0 : Int) x2 ((rlen x2) : Int) (0 : Int) x0 := by kernel_rfl
theorem EditSize_l0_eq (K k : Nat) (x0 : ByteArray) (x5 : Int) (x8 : Rf) (x9 : Int) (x10 : Int) (h : Hp) : EditSize_l0 K (k + 1) x0 x5 x8 x9 x10 h =
  br (ltI x10 x9)
  (EditSize_j0 K k x0 x5 x8 x9 x10 h)
  (some (h, x5)) := by kernel_rfl
theorem EditSize_j0_eq (K k : Nat) (x0 : ByteArray) (x5 : Int) (x8 : Rf) (x9 : Int) (x10 : Int) (h : Hp) : EditSize_j0 K (k + 1) x0 x5 x8 x9 x10 h =
  chk (leI (0 : Int) x10) (chk (ltI x10 ((rlen x8) : Int)) (Option.bind ((Hp.ld h (.p TS1) (radr 3 (Int.toNat x10) x8))) fun r0 =>
  chk (leI (0 : Int) (r0).1) (chk (leI (r0).1 ((r0).2).1) (chk (leI ((r0).2).1 ((ByteArray.size x0) : Int)) (Option.bind (EditChars K (ByteArray.extract x0 (Int.toNat (r0).1) (Int.toNat ((r0).2).1))) fun r1 =>
  Option.bind (EditChars K ((r0).2).2) fun r2 =>
  EditSize_l0 K k x0 (IntKind.wrap IntKind.i64 (x5 + (IntKind.wrap IntKind.i64 (((List.length r1) : Int) + ((List.length r2) : Int))))) x8 x9 (IntKind.wrap IntKind.i64 (x10 + (1 : Int))) h))))) := by kernel_rfl
theorem EditLeast_eq (K : Nat) (x0 : List ByteArray) (x1 : List ByteArray) : EditLeast (K + 1) x0 x1 =
  chk (leI (0 : Int) (IntKind.wrap IntKind.i64 (((List.length x1) : Int) + (1 : Int)))) (chk (leI (IntKind.wrap IntKind.i64 (((List.length x1) : Int) + (1 : Int))) (IntKind.wrap IntKind.i64 (((List.length x1) : Int) + (1 : Int)))) (chk (ltI (IntKind.wrap IntKind.i64 (((List.length x1) : Int) + (1 : Int))) (1000000000000 : Int)) (EditLeast_l0 K K x0 x1 (Rf.at 0 0 (Int.toNat (IntKind.wrap IntKind.i64 (((List.length x1) : Int) + (1 : Int))))) ((rlen (Rf.at 0 0 (Int.toNat (IntKind.wrap IntKind.i64 (((List.length x1) : Int) + (1 : Int)))))) : Int) (0 : Int) (Hp.new Hp.empty (3 : TypeId) (.p (.int (.i64))) (List.replicate (Int.toNat (IntKind.wrap IntKind.i64 (((List.length x1) : Int) + (1 : Int)))) (0 : Int)))))) := by kernel_rfl
theorem EditLeast_l0_eq (K k : Nat) (x0 : List (ByteArray)) (x1 : List (ByteArray)) (x5 : Rf) (x15 : Int) (x16 : Int) (h : Hp) : EditLeast_l0 K (k + 1) x0 x1 x5 x15 x16 h =
  br (ltI x16 x15)
  (EditLeast_j0 K k x0 x1 x5 x15 x16 h)
  (EditLeast_j1 K k x0 x1 x5 h) := by kernel_rfl
theorem EditLeast_j0_eq (K k : Nat) (x0 : List (ByteArray)) (x1 : List (ByteArray)) (x5 : Rf) (x15 : Int) (x16 : Int) (h : Hp) : EditLeast_j0 K (k + 1) x0 x1 x5 x15 x16 h =
  chk (leI (0 : Int) x16) (chk (ltI x16 ((rlen x5) : Int)) (Option.bind ((Hp.st h (.p (.int (.i64))) (radr 1 (Int.toNat x16) x5) x16)) fun r0 =>
  EditLeast_l0 K k x0 x1 x5 x15 (IntKind.wrap IntKind.i64 (x16 + (1 : Int))) r0)) := by kernel_rfl
theorem EditLeast_j1_eq (K k : Nat) (x0 : List (ByteArray)) (x1 : List (ByteArray)) (x5 : Rf) (h : Hp) : EditLeast_j1 K (k + 1) x0 x1 x5 h =
  EditLeast_l1 K k x0 x1 x5 (1 : Int) h := by kernel_rfl
theorem EditLeast_l1_eq (K k : Nat) (x0 : List (ByteArray)) (x1 : List (ByteArray)) (x5 : Rf) (x7 : Int) (h : Hp) : EditLeast_l1 K (k + 1) x0 x1 x5 x7 h =
  br (leI x7 ((List.length x0) : Int))
  (EditLeast_j2 K k x0 x1 x5 x7 h)
  (EditLeast_j3 K k x1 x5 h) := by kernel_rfl
theorem EditLeast_j2_eq (K k : Nat) (x0 : List (ByteArray)) (x1 : List (ByteArray)) (x5 : Rf) (x7 : Int) (h : Hp) : EditLeast_j2 K (k + 1) x0 x1 x5 x7 h =
  chk (leI (0 : Int) (IntKind.wrap IntKind.i64 (((List.length x1) : Int) + (1 : Int)))) (chk (leI (IntKind.wrap IntKind.i64 (((List.length x1) : Int) + (1 : Int))) (IntKind.wrap IntKind.i64 (((List.length x1) : Int) + (1 : Int)))) (chk (ltI (IntKind.wrap IntKind.i64 (((List.length x1) : Int) + (1 : Int))) (1000000000000 : Int)) (chk (leI (0 : Int) (0 : Int)) (chk (ltI (0 : Int) ((rlen (Rf.at (h).1 0 (Int.toNat (IntKind.wrap IntKind.i64 (((List.length x1) : Int) + (1 : Int)))))) : Int)) (Option.bind ((Hp.st (Hp.new h (3 : TypeId) (.p (.int (.i64))) (List.replicate (Int.toNat (IntKind.wrap IntKind.i64 (((List.length x1) : Int) + (1 : Int)))) (0 : Int))) (.p (.int (.i64))) (radr 1 (Int.toNat (0 : Int)) (Rf.at (h).1 0 (Int.toNat (IntKind.wrap IntKind.i64 (((List.length x1) : Int) + (1 : Int)))))) x7)) fun r0 =>
  EditLeast_l2 K k x0 x1 x5 x7 (Rf.at (h).1 0 (Int.toNat (IntKind.wrap IntKind.i64 (((List.length x1) : Int) + (1 : Int))))) (1 : Int) r0))))) := by kernel_rfl
theorem EditLeast_j3_eq (K k : Nat) (x1 : List (ByteArray)) (x5 : Rf) (h : Hp) : EditLeast_j3 K (k + 1) x1 x5 h =
  chk (leI (0 : Int) ((List.length x1) : Int)) (chk (ltI ((List.length x1) : Int) ((rlen x5) : Int)) (Option.bind ((Hp.ld h (.p (.int (.i64))) (radr 1 (Int.toNat ((List.length x1) : Int)) x5))) fun r0 =>
  some r0)) := by kernel_rfl
theorem EditLeast_l2_eq (K k : Nat) (x0 : List (ByteArray)) (x1 : List (ByteArray)) (x5 : Rf) (x7 : Int) (x8 : Rf) (x9 : Int) (h : Hp) : EditLeast_l2 K (k + 1) x0 x1 x5 x7 x8 x9 h =
  br (leI x9 ((List.length x1) : Int))
  (EditLeast_j4 K k x0 x1 x5 x7 x8 x9 h)
  (EditLeast_l1 K k x0 x1 x8 (IntKind.wrap IntKind.i64 (x7 + (1 : Int))) h) := by kernel_rfl
theorem EditLeast_j4_eq (K k : Nat) (x0 : List (ByteArray)) (x1 : List (ByteArray)) (x5 : Rf) (x7 : Int) (x8 : Rf) (x9 : Int) (h : Hp) : EditLeast_j4 K (k + 1) x0 x1 x5 x7 x8 x9 h =
  chk (leI (0 : Int) x9) (chk (ltI x9 ((rlen x5) : Int)) (Option.bind ((Hp.ld h (.p (.int (.i64))) (radr 1 (Int.toNat x9) x5))) fun r0 =>
  chk (leI (0 : Int) (IntKind.wrap IntKind.i64 (x9 - (1 : Int)))) (chk (ltI (IntKind.wrap IntKind.i64 (x9 - (1 : Int))) ((rlen x8) : Int)) (Option.bind ((Hp.ld h (.p (.int (.i64))) (radr 1 (Int.toNat (IntKind.wrap IntKind.i64 (x9 - (1 : Int)))) x8))) fun r1 =>
  chk (leI (0 : Int) x9) (chk (ltI x9 ((rlen x8) : Int)) (Option.bind ((Hp.st h (.p (.int (.i64))) (radr 1 (Int.toNat x9) x8) (IntKind.wrap IntKind.i64 ((cond (ltI r1 r0) r1 r0) + (1 : Int))))) fun r2 =>
  chk (leI (0 : Int) (IntKind.wrap IntKind.i64 (x7 - (1 : Int)))) (chk (ltI (IntKind.wrap IntKind.i64 (x7 - (1 : Int))) ((List.length x0) : Int)) (chk (leI (0 : Int) (IntKind.wrap IntKind.i64 (x9 - (1 : Int)))) (chk (ltI (IntKind.wrap IntKind.i64 (x9 - (1 : Int))) ((List.length x1) : Int)) (br (eqS (nth (.str) x0 (IntKind.wrap IntKind.i64 (x7 - (1 : Int)))) (nth (.str) x1 (IntKind.wrap IntKind.i64 (x9 - (1 : Int)))))
  (chk (leI (0 : Int) (IntKind.wrap IntKind.i64 (x9 - (1 : Int)))) (chk (ltI (IntKind.wrap IntKind.i64 (x9 - (1 : Int))) ((rlen x5) : Int)) (Option.bind ((Hp.ld r2 (.p (.int (.i64))) (radr 1 (Int.toNat (IntKind.wrap IntKind.i64 (x9 - (1 : Int)))) x5))) fun r3 =>
   chk (leI (0 : Int) x9) (chk (ltI x9 ((rlen x8) : Int)) (Option.bind ((Hp.st r2 (.p (.int (.i64))) (radr 1 (Int.toNat x9) x8) r3)) fun r4 =>
   EditLeast_l2 K k x0 x1 x5 x7 x8 (IntKind.wrap IntKind.i64 (x9 + (1 : Int))) r4)))))
  (EditLeast_l2 K k x0 x1 x5 x7 x8 (IntKind.wrap IntKind.i64 (x9 + (1 : Int))) r2))))))))))) := by kernel_rfl
theorem EditChars_eq (K : Nat) (x0 : ByteArray) : EditChars (K + 1) x0 =
  EditChars_l0 K K [] (Pf.at 0 0) (Hp.push Hp.empty (Obj.iter x0 0)) := by kernel_rfl
theorem EditChars_l0_eq (K k : Nat) (x3 : List (ByteArray)) (x7 : Pf) (h : Hp) : EditChars_l0 K (k + 1) x3 x7 h =
  Option.bind ((Hp.more h x7)) fun r0 =>
  br r0
  (Option.bind ((Hp.nxt h x7)) fun r1 =>
   EditChars_j0 K k x3 x7 Bool.true (r1).1 ((r1).2).1 ((r1).2).2)
  (some x3) := by kernel_rfl
theorem EditChars_j0_eq (K k : Nat) (x3 : List (ByteArray)) (x7 : Pf) (x8_0 : Bool) (x8_1 : Int) (x8_2 : Int) (h : Hp) : EditChars_j0 K (k + 1) x3 x7 x8_0 x8_1 x8_2 h =
  chk (ltI (((List.length x3) : Int) + ((List.length ((strOfRunes (x8_2 :: [])) :: [])) : Int)) (1000000000000 : Int)) (EditChars_l0 K k (x3 ++ ((strOfRunes (x8_2 :: [])) :: [])) x7 h) := by kernel_rfl
theorem zzFits8_eq (K : Nat) (x0 : List TS1.den) : zzFits8 (K + 1) x0 =
  br (ltI (2147483647 : Int) ((List.length x0) : Int))
  (some Bool.false)
  (zzFits8_j0 K K x0) := by kernel_rfl
theorem zzFits8_j0_eq (K k : Nat) (x0 : List (TS1.den)) : zzFits8_j0 K (k + 1) x0 =
  zzFits8_l0 K k x0 ((List.length x0) : Int) (0 : Int) := by kernel_rfl
theorem zzFits8_l0_eq (K k : Nat) (x8 : List (TS1.den)) (x9 : Int) (x10 : Int) : zzFits8_l0 K (k + 1) x8 x9 x10 =
  br (ltI x10 x9)
  (zzFits8_j1 K k x8 x9 x10)
  (some Bool.true) := by kernel_rfl
theorem zzFits8_j1_eq (K k : Nat) (x8 : List (TS1.den)) (x9 : Int) (x10 : Int) : zzFits8_j1 K (k + 1) x8 x9 x10 =
  chk (leI (0 : Int) x10) (chk (ltI x10 ((List.length x8) : Int)) (Option.bind (zzFits9 K (nth TS1 x8 x10)) fun r0 =>
  br (Bool.not r0)
  (some Bool.false)
  (zzFits8_l0 K k x8 x9 (IntKind.wrap IntKind.i64 (x10 + (1 : Int)))))) := by kernel_rfl
theorem editFew_eq (K : Nat) (x0 : List TS1.den) : editFew (K + 1) x0 =
  br (ltI (12 : Int) ((List.length x0) : Int))
  (some Bool.false)
  (editFew_j0 K K x0) := by kernel_rfl
theorem editFew_j0_eq (K k : Nat) (x0 : List (TS1.den)) : editFew_j0 K (k + 1) x0 =
  editFew_l0 K k x0 ((List.length x0) : Int) (0 : Int) := by kernel_rfl
theorem editFew_l0_eq (K k : Nat) (x8 : List (TS1.den)) (x9 : Int) (x10 : Int) : editFew_l0 K (k + 1) x8 x9 x10 =
  br (ltI x10 x9)
  (editFew_j1 K k x8 x9 x10)
  (some Bool.true) := by kernel_rfl
theorem editFew_j1_eq (K k : Nat) (x8 : List (TS1.den)) (x9 : Int) (x10 : Int) : editFew_j1 K (k + 1) x8 x9 x10 =
  chk (leI (0 : Int) x10) (chk (ltI x10 ((List.length x8) : Int)) (br (ltI (60 : Int) ((ByteArray.size (((nth TS1 x8 x10)).2).2) : Int))
  (editFew_j2 K k x8 x9 x10 Bool.true)
  (br (ltI ((nth TS1 x8 x10)).1 (-(2147483648 : Int)))
   (editFew_j2 K k x8 x9 x10 Bool.true)
   (br (ltI (2147483647 : Int) ((nth TS1 x8 x10)).1)
    (editFew_j2 K k x8 x9 x10 Bool.true)
    (br (ltI (((nth TS1 x8 x10)).2).1 (-(2147483648 : Int)))
     (editFew_j2 K k x8 x9 x10 Bool.true)
     (editFew_j2 K k x8 x9 x10 (ltI (2147483647 : Int) (((nth TS1 x8 x10)).2).1))))))) := by kernel_rfl
theorem editFew_j2_eq (K k : Nat) (x8 : List (TS1.den)) (x9 : Int) (x10 : Int) (x37 : Bool) : editFew_j2 K (k + 1) x8 x9 x10 x37 =
  br x37
  (some Bool.false)
  (editFew_l0 K k x8 x9 (IntKind.wrap IntKind.i64 (x10 + (1 : Int)))) := by kernel_rfl
theorem ApplyEdits_eq (K : Nat) (x0 : ByteArray) (x1 : List TS1.den) : ApplyEdits (K + 1) x0 x1 =
  Option.bind (edits K Hp.empty x1) fun r0 =>
  Option.bind (Apply K (r0).1 x0 (r0).2) fun r1 =>
  Option.bind (word K (r1).1 ((r1).2).2) fun r2 =>
  some (((r1).2).1, (r2).2) := by kernel_rfl
theorem editOwn_eq (K : Nat) (x0 : List TS1.den) : editOwn (K + 1) x0 =
  chk (ltI ((List.length x0) : Int) (1000000000000 : Int)) (some x0) := by kernel_rfl
theorem editTexts_eq (K : Nat) (x0 : ByteArray) (x1 : ByteArray) : editTexts (K + 1) x0 x1 =
  Option.bind (CleanChars K x0 (200 : Int)) fun r0 =>
  br r0
  (Option.bind (CleanChars K x1 (200 : Int)) fun r1 =>
   some r1)
  (some Bool.false) := by kernel_rfl
theorem EditChar_eq (K : Nat) (x0 : ByteArray) (x1 : Int) : EditChar (K + 1) x0 x1 =
  br (eqI x1 ((ByteArray.size x0) : Int))
  (some Bool.true)
  (br (leI (0 : Int) x1)
   (br (ltI x1 ((ByteArray.size x0) : Int))
    (chk (leI (0 : Int) x1) (chk (ltI x1 ((ByteArray.size x0) : Int)) (some (Bool.not (eqI (IntKind.wrap IntKind.u8 ((BitVec.toNat (HAnd.hAnd (BitVec.ofInt (IntKind.bits IntKind.u8) (bt x0 x1)) (BitVec.ofInt (IntKind.bits IntKind.u8) (192 : Int)))) : Int)) (128 : Int))))))
    (some Bool.false))
   (some Bool.false)) := by kernel_rfl
theorem EditsSame_eq (K : Nat) (x0 : Hp) (x1 : Rf) (x2 : Rf) : EditsSame (K + 1) x0 x1 x2 =
  br (Bool.not (eqI ((rlen x1) : Int) ((rlen x2) : Int)))
  (some (x0, Bool.false))
  (EditsSame_j0 K K x1 x2 x0) := by kernel_rfl
theorem EditsSame_j0_eq (K k : Nat) (x0 : Rf) (x1 : Rf) (h : Hp) : EditsSame_j0 K (k + 1) x0 x1 h =
  EditsSame_l0 K k x0 x1 ((rlen x0) : Int) (0 : Int) h := by kernel_rfl
theorem EditsSame_l0_eq (K k : Nat) (x0 : Rf) (x1 : Rf) (x12 : Int) (x13 : Int) (h : Hp) : EditsSame_l0 K (k + 1) x0 x1 x12 x13 h =
  br (ltI x13 x12)
  (EditsSame_j1 K k x0 x1 x12 x13 h)
  (some (h, Bool.true)) := by kernel_rfl
theorem EditsSame_j1_eq (K k : Nat) (x0 : Rf) (x1 : Rf) (x12 : Int) (x13 : Int) (h : Hp) : EditsSame_j1 K (k + 1) x0 x1 x12 x13 h =
  chk (leI (0 : Int) x13) (chk (ltI x13 ((rlen x0) : Int)) (Option.bind ((Hp.ld h (.p TS1) (radr 3 (Int.toNat x13) x0))) fun r0 =>
  chk (leI (0 : Int) x13) (chk (ltI x13 ((rlen x1) : Int)) (Option.bind ((Hp.ld h (.p TS1) (radr 3 (Int.toNat x13) x1))) fun r1 =>
  br (Bool.not (Bool.and (eqI (r0).1 (r1).1) (Bool.and (eqI ((r0).2).1 ((r1).2).1) (eqS ((r0).2).2 ((r1).2).2))))
  (some (h, Bool.false))
  (EditsSame_l0 K k x0 x1 x12 (IntKind.wrap IntKind.i64 (x13 + (1 : Int))) h))))) := by kernel_rfl
theorem impl_SortEdits_eq (K : Nat) (x0 : List TS1.den) : impl_SortEdits (K + 1) x0 =
  Option.bind (edits K Hp.empty x0) fun r0 =>
  Option.bind (udiff_SortEdits K (r0).1 (r0).2) fun r1 =>
  Option.bind (backEdits K r1 (r0).2) fun r2 =>
  some (r2).2 := by kernel_rfl
theorem EditsSorted_eq (K : Nat) (x0 : Hp) (x1 : Rf) : EditsSorted (K + 1) x0 x1 =
  EditsSorted_l0 K K Rf.nil x1 ((rlen x1) : Int) (0 : Int) x0 := by kernel_rfl
theorem EditsSorted_l0_eq (K k : Nat) (x3 : Rf) (x7 : Rf) (x8 : Int) (x9 : Int) (h : Hp) : EditsSorted_l0 K (k + 1) x3 x7 x8 x9 h =
  br (ltI x9 x8)
  (EditsSorted_j0 K k x3 x7 x8 x9 h)
  (some (h, x3)) := by kernel_rfl
theorem EditsSorted_j0_eq (K k : Nat) (x3 : Rf) (x7 : Rf) (x8 : Int) (x9 : Int) (h : Hp) : EditsSorted_j0 K (k + 1) x3 x7 x8 x9 h =
  chk (leI (0 : Int) x9) (chk (ltI x9 ((rlen x7) : Int)) (Option.bind ((Hp.ld h (.p TS1) (radr 3 (Int.toNat x9) x7))) fun r0 =>
  EditsSorted_l1 K k x3 (0 : Int) (r0 :: []) ((rlen x3) : Int) x7 x8 x9 h)) := by kernel_rfl
theorem EditsSorted_l1_eq (K k : Nat) (x3 : Rf) (i5 : Int) (x5 : List (TS1.den)) (x6 : Int) (x7 : Rf) (x8 : Int) (x9 : Int) (h : Hp) : EditsSorted_l1 K (k + 1) x3 i5 x5 x6 x7 x8 x9 h =
  br (ltI (0 : Int) x6)
  (chk (leI (0 : Int) (IntKind.wrap IntKind.i64 (x6 - (1 : Int)))) (chk (ltI (IntKind.wrap IntKind.i64 (x6 - (1 : Int))) ((rlen x3) : Int)) (Option.bind ((Hp.ld h (.p TS1) (radr 3 (Int.toNat (IntKind.wrap IntKind.i64 (x6 - (1 : Int)))) x3))) fun r0 =>
   Option.bind (EditBefore K (nth TS1 x5 i5) r0) fun r1 =>
   br r1
   (EditsSorted_j1 K k x3 i5 x5 x6 x7 x8 x9 h)
   (EditsSorted_j2 K k x3 i5 x5 x6 x7 x8 x9 h))))
  (EditsSorted_j2 K k x3 i5 x5 x6 x7 x8 x9 h) := by kernel_rfl
theorem EditsSorted_j1_eq (K k : Nat) (x3 : Rf) (i5 : Int) (x5 : List (TS1.den)) (x6 : Int) (x7 : Rf) (x8 : Int) (x9 : Int) (h : Hp) : EditsSorted_j1 K (k + 1) x3 i5 x5 x6 x7 x8 x9 h =
  EditsSorted_l1 K k x3 i5 x5 (IntKind.wrap IntKind.i64 (x6 - (1 : Int))) x7 x8 x9 h := by kernel_rfl
theorem EditsSorted_j2_eq (K k : Nat) (x3 : Rf) (i5 : Int) (x5 : List (TS1.den)) (x6 : Int) (x7 : Rf) (x8 : Int) (x9 : Int) (h : Hp) : EditsSorted_j2 K (k + 1) x3 i5 x5 x6 x7 x8 x9 h =
  chk (leI (0 : Int) (0 : Int)) (chk (leI (0 : Int) x6) (chk (leI x6 x6) (chk (leI x6 ((rlen x3) : Int)) (chk (leI (0 : Int) x6) (chk (leI x6 ((rlen x3) : Int)) (chk (leI ((rlen x3) : Int) ((rlen x3) : Int)) (Option.bind ((Hp.cs (Hp.new h (41 : TypeId) (.p TS1) ((nth TS1 x5 i5) :: [])) 3 (rcut 3 (Int.toNat x6) (Int.toNat ((rlen x3) : Int)) x3))) fun r0 =>
  chk (ltI (((rlen (Rf.at (h).1 0 1)) : Int) + ((r0).2 : Int)) (1000000000000 : Int)) (Option.bind ((Hp.app (Hp.new h (41 : TypeId) (.p TS1) ((nth TS1 x5 i5) :: [])) (41 : TypeId) 3 (r0).1 (r0).2 (Rf.at (h).1 0 1))) fun r1 =>
  Option.bind ((Hp.cs (r1).2 3 (r1).1)) fun r2 =>
  chk (ltI (((rlen (rcut 3 (Int.toNat (0 : Int)) (Int.toNat x6) x3)) : Int) + ((r2).2 : Int)) (1000000000000 : Int)) (Option.bind ((Hp.apc (r1).2 (41 : TypeId) 3 (r2).1 (r2).2 (rcut 3 (Int.toNat (0 : Int)) (Int.toNat x6) x3) (Int.toNat (x6 - (0 : Int))))) fun r3 =>
  EditsSorted_l0 K k (r3).1 x7 x8 (IntKind.wrap IntKind.i64 (x9 + (1 : Int))) (r3).2))))))))) := by kernel_rfl
theorem ApplyEditsBytes_eq (K : Nat) (x0 : List Int) (x1 : List TS1.den) : ApplyEditsBytes (K + 1) x0 x1 =
  chk (ltI ((List.length x0) : Int) (1000000000000 : Int)) (Option.bind (edits K Hp.empty x1) fun r0 =>
  Option.bind (ApplyBytes K (r0).1 x0 (r0).2) fun r1 =>
  Option.bind ((Hp.rd (r1).1 (.int (.u8)) ((r1).2).1)) fun r2 =>
  chk (ltI ((List.length r2) : Int) (1000000000000 : Int)) (Option.bind (word K (r1).1 ((r1).2).2) fun r3 =>
  some (r2, (r3).2))) := by kernel_rfl
theorem EditsIn_eq (K : Nat) (x0 : Hp) (x1 : Rf) (x2 : Int) : EditsIn (K + 1) x0 x1 x2 =
  EditsIn_l0 K K x2 x1 ((rlen x1) : Int) (0 : Int) x0 := by kernel_rfl
theorem EditsIn_l0_eq (K k : Nat) (x1 : Int) (x7 : Rf) (x8 : Int) (x9 : Int) (h : Hp) : EditsIn_l0 K (k + 1) x1 x7 x8 x9 h =
  br (ltI x9 x8)
  (EditsIn_j0 K k x1 x7 x8 x9 h)
  (some (h, Bool.true)) := by kernel_rfl
theorem EditsIn_j0_eq (K k : Nat) (x1 : Int) (x7 : Rf) (x8 : Int) (x9 : Int) (h : Hp) : EditsIn_j0 K (k + 1) x1 x7 x8 x9 h =
  chk (leI (0 : Int) x9) (chk (ltI x9 ((rlen x7) : Int)) (Option.bind ((Hp.ld h (.p TS1) (radr 3 (Int.toNat x9) x7))) fun r0 =>
  br (ltI (r0).1 (0 : Int))
  (EditsIn_j1 K k x1 x7 x8 x9 Bool.true h)
  (br (ltI ((r0).2).1 (r0).1)
   (EditsIn_j1 K k x1 x7 x8 x9 Bool.true h)
   (EditsIn_j1 K k x1 x7 x8 x9 (ltI x1 ((r0).2).1) h)))) := by kernel_rfl
theorem EditsIn_j1_eq (K k : Nat) (x1 : Int) (x7 : Rf) (x8 : Int) (x9 : Int) (x28 : Bool) (h : Hp) : EditsIn_j1 K (k + 1) x1 x7 x8 x9 x28 h =
  br x28
  (some (h, Bool.false))
  (EditsIn_l0 K k x1 x7 x8 (IntKind.wrap IntKind.i64 (x9 + (1 : Int))) h) := by kernel_rfl
theorem EditsApart_eq (K : Nat) (x0 : Hp) (x1 : Rf) : EditsApart (K + 1) x0 x1 =
  EditsApart_l0 K K x1 (1 : Int) x0 := by kernel_rfl
theorem EditsApart_l0_eq (K k : Nat) (x0 : Rf) (x3 : Int) (h : Hp) : EditsApart_l0 K (k + 1) x0 x3 h =
  br (ltI x3 ((rlen x0) : Int))
  (EditsApart_j0 K k x0 x3 h)
  (some (h, Bool.true)) := by kernel_rfl
theorem EditsApart_j0_eq (K k : Nat) (x0 : Rf) (x3 : Int) (h : Hp) : EditsApart_j0 K (k + 1) x0 x3 h =
  chk (leI (0 : Int) x3) (chk (ltI x3 ((rlen x0) : Int)) (chk (Bool.not (pnil (radr 3 (Int.toNat x3) x0))) (Option.bind ((Hp.ld h (.p (.int (.i64))) (padd 0 (radr 3 (Int.toNat x3) x0)))) fun r0 =>
  chk (leI (0 : Int) (IntKind.wrap IntKind.i64 (x3 - (1 : Int)))) (chk (ltI (IntKind.wrap IntKind.i64 (x3 - (1 : Int))) ((rlen x0) : Int)) (chk (Bool.not (pnil (radr 3 (Int.toNat (IntKind.wrap IntKind.i64 (x3 - (1 : Int)))) x0))) (Option.bind ((Hp.ld h (.p (.int (.i64))) (padd 1 (radr 3 (Int.toNat (IntKind.wrap IntKind.i64 (x3 - (1 : Int)))) x0)))) fun r1 =>
  br (ltI r0 r1)
  (some (h, Bool.false))
  (EditsApart_l0 K k x0 (IntKind.wrap IntKind.i64 (x3 + (1 : Int))) h))))))) := by kernel_rfl
theorem EditsApplied_eq (K : Nat) (x0 : Hp) (x1 : ByteArray) (x2 : Rf) : EditsApplied (K + 1) x0 x1 x2 =
  EditsApplied_l0 K K x1 (ByteArray.mk (List.toArray [])) (0 : Int) x2 ((rlen x2) : Int) (0 : Int) x0 := by kernel_rfl
theorem EditsApplied_l0_eq (K k : Nat) (x0 : ByteArray) (x5 : ByteArray) (x6 : Int) (x9 : Rf) (x10 : Int) (x11 : Int) (h : Hp) : EditsApplied_l0 K (k + 1) x0 x5 x6 x9 x10 x11 h =
  br (ltI x11 x10)
  (EditsApplied_j0 K k x0 x5 x6 x9 x10 x11 h)
  (EditsApplied_j1 K k x0 x5 x6 h) := by kernel_rfl
theorem EditsApplied_j0_eq (K k : Nat) (x0 : ByteArray) (x5 : ByteArray) (x6 : Int) (x9 : Rf) (x10 : Int) (x11 : Int) (h : Hp) : EditsApplied_j0 K (k + 1) x0 x5 x6 x9 x10 x11 h =
  chk (leI (0 : Int) x11) (chk (ltI x11 ((rlen x9) : Int)) (Option.bind ((Hp.ld h (.p TS1) (radr 3 (Int.toNat x11) x9))) fun r0 =>
  chk (leI (0 : Int) x6) (chk (leI x6 (r0).1) (chk (leI (r0).1 ((ByteArray.size x0) : Int)) (chk (nleI ((ByteArray.size (ByteArray.extract x0 (Int.toNat x6) (Int.toNat (r0).1))) + (ByteArray.size ((r0).2).2)) 9223372036854775807) (chk (nleI ((ByteArray.size x5) + (ByteArray.size (ByteArray.append (ByteArray.extract x0 (Int.toNat x6) (Int.toNat (r0).1)) ((r0).2).2))) 9223372036854775807) (EditsApplied_l0 K k x0 (ByteArray.append x5 (ByteArray.append (ByteArray.extract x0 (Int.toNat x6) (Int.toNat (r0).1)) ((r0).2).2)) ((r0).2).1 x9 x10 (IntKind.wrap IntKind.i64 (x11 + (1 : Int))) h))))))) := by kernel_rfl
theorem EditsApplied_j1_eq (K k : Nat) (x0 : ByteArray) (x5 : ByteArray) (x6 : Int) (h : Hp) : EditsApplied_j1 K (k + 1) x0 x5 x6 h =
  chk (leI (0 : Int) x6) (chk (leI x6 ((ByteArray.size x0) : Int)) (chk (leI ((ByteArray.size x0) : Int) ((ByteArray.size x0) : Int)) (chk (nleI ((ByteArray.size x5) + (ByteArray.size (ByteArray.extract x0 (Int.toNat x6) (Int.toNat ((ByteArray.size x0) : Int))))) 9223372036854775807) (some (h, (ByteArray.append x5 (ByteArray.extract x0 (Int.toNat x6) (Int.toNat ((ByteArray.size x0) : Int))))))))) := by kernel_rfl
theorem editWide_eq (K : Nat) (x0 : List TS1.den) : editWide (K + 1) x0 =
  Option.bind (editOf K Hp.empty x0) fun r0 =>
  Option.bind (EditsIn K (r0).1 (r0).2 (10000 : Int)) fun r1 =>
  br (Bool.not (r1).2)
  (some Bool.false)
  (editWide_j0 K K x0 (r1).1) := by kernel_rfl
theorem editWide_j0_eq (K k : Nat) (x0 : List (TS1.den)) (h : Hp) : editWide_j0 K (k + 1) x0 h =
  editWide_l0 K k x0 (1 : Int) h := by kernel_rfl
theorem editWide_l0_eq (K k : Nat) (x0 : List (TS1.den)) (x3 : Int) (h : Hp) : editWide_l0 K (k + 1) x0 x3 h =
  br (ltI x3 ((List.length x0) : Int))
  (editWide_j1 K k x0 x3 h)
  (some Bool.true) := by kernel_rfl
theorem editWide_j1_eq (K k : Nat) (x0 : List (TS1.den)) (x3 : Int) (h : Hp) : editWide_j1 K (k + 1) x0 x3 h =
  chk (leI (0 : Int) x3) (chk (ltI x3 ((List.length x0) : Int)) (chk (leI (0 : Int) (IntKind.wrap IntKind.i64 (x3 - (1 : Int)))) (chk (ltI (IntKind.wrap IntKind.i64 (x3 - (1 : Int))) ((List.length x0) : Int)) (br (leI ((nth TS1 x0 x3)).1 (((nth TS1 x0 (IntKind.wrap IntKind.i64 (x3 - (1 : Int))))).2).1)
  (some Bool.false)
  (editWide_l0 K k x0 (IntKind.wrap IntKind.i64 (x3 + (1 : Int))) h))))) := by kernel_rfl
theorem MergeEdits_eq (K : Nat) (x0 : List TS1.den) (x1 : List TS1.den) : MergeEdits (K + 1) x0 x1 =
  Option.bind (edits K Hp.empty x0) fun r0 =>
  Option.bind (edits K (r0).1 x1) fun r1 =>
  Option.bind (Merge K (r1).1 (r0).2 (r1).2) fun r2 =>
  Option.bind (backEdits K (r2).1 ((r2).2).1) fun r3 =>
  some ((r3).2, ((r2).2).2) := by kernel_rfl
theorem backEdits_eq (K : Nat) (x0 : Hp) (x1 : Rf) : backEdits (K + 1) x0 x1 =
  backEdits_l0 K K [] x1 ((rlen x1) : Int) (0 : Int) x0 := by kernel_rfl
theorem backEdits_l0_eq (K k : Nat) (x3 : List (TS1.den)) (x6 : Rf) (x7 : Int) (x8 : Int) (h : Hp) : backEdits_l0 K (k + 1) x3 x6 x7 x8 h =
  br (ltI x8 x7)
  (backEdits_j0 K k x3 x6 x7 x8 h)
  (some (h, x3)) := by kernel_rfl
theorem backEdits_j0_eq (K k : Nat) (x3 : List (TS1.den)) (x6 : Rf) (x7 : Int) (x8 : Int) (h : Hp) : backEdits_j0 K (k + 1) x3 x6 x7 x8 h =
  chk (leI (0 : Int) x8) (chk (ltI x8 ((rlen x6) : Int)) (Option.bind ((Hp.ld h (.p TS1) (radr 3 (Int.toNat x8) x6))) fun r0 =>
  chk (ltI (((List.length x3) : Int) + ((List.length (((r0).1, (((r0).2).1, ((r0).2).2)) :: [])) : Int)) (1000000000000 : Int)) (backEdits_l0 K k (x3 ++ (((r0).1, (((r0).2).1, ((r0).2).2)) :: [])) x6 x7 (IntKind.wrap IntKind.i64 (x8 + (1 : Int))) h))) := by kernel_rfl
theorem Strings_eq (K : Nat) (x0 : Hp) (x1 : ByteArray) (x2 : ByteArray) : Strings (K + 1) x0 x1 x2 =
  br (eqS x1 x2)
  (some (x0, Rf.nil))
  (Strings_j0 K K x1 x2 x0) := by kernel_rfl
theorem Strings_j0_eq (K k : Nat) (x0 : ByteArray) (x1 : ByteArray) (h : Hp) : Strings_j0 K (k + 1) x0 x1 h =
  Option.bind (isASCII_string_ K x0) fun r0 =>
  br r0
  (Option.bind (isASCII_string_ K x1) fun r1 =>
   Strings_j1 K k x0 x1 r1 h)
  (Strings_j1 K k x0 x1 Bool.false h) := by kernel_rfl
theorem Strings_j1_eq (K k : Nat) (x0 : ByteArray) (x1 : ByteArray) (x13 : Bool) (h : Hp) : Strings_j1 K (k + 1) x0 x1 x13 h =
  br x13
  (Option.bind (diffASCII K (Hp.push (Hp.push h (Obj.ro (roBytes x0))) (Obj.ro (roBytes x1))) (Rf.at (h).1 0 (ByteArray.size x0)) (Rf.at (Nat.succ (h).1) 0 (ByteArray.size x1))) fun r0 =>
   some ((r0).1, (r0).2))
  (Strings_j2 K k x0 x1 h) := by kernel_rfl
theorem Strings_j2_eq (K k : Nat) (x0 : ByteArray) (x1 : ByteArray) (h : Hp) : Strings_j2 K (k + 1) x0 x1 h =
  chk (nleI (List.length (runesI x0)) 70368744177664) (chk (nleI (List.length (runesI x1)) 70368744177664) (Option.bind (diffRunes K (Hp.new (Hp.new h (21 : TypeId) (.p (.int (.i32))) (runesI x0)) (21 : TypeId) (.p (.int (.i32))) (runesI x1)) (Rf.at (h).1 0 (List.length (runesI x0))) (Rf.at (Nat.succ (h).1) 0 (List.length (runesI x1)))) fun r0 =>
  some ((r0).1, (r0).2))) := by kernel_rfl
theorem EditBefore_eq (K : Nat) (x0 : TS1.den) (x1 : TS1.den) : EditBefore (K + 1) x0 x1 =
  br (ltI (x0).1 (x1).1)
  (some Bool.true)
  (br (eqI (x0).1 (x1).1)
   (some (ltI ((x0).2).1 ((x1).2).1))
   (some Bool.false)) := by kernel_rfl
theorem zzFits9_eq (K : Nat) (x0 : TS1.den) : zzFits9 (K + 1) x0 =
  br (ltI (2147483647 : Int) ((ByteArray.size ((x0).2).2) : Int))
  (some Bool.false)
  (some Bool.true) := by kernel_rfl
theorem Apply_eq (K : Nat) (x0 : Hp) (x1 : ByteArray) (x2 : Rf) : Apply (K + 1) x0 x1 x2 =
  Option.bind (validate K x0 x1 x2) fun r0 =>
  br (Bool.not (inil (((r0).2).2).2))
  (some ((r0).1, ((ByteArray.mk (List.toArray [])), (((r0).2).2).2)))
  (Apply_j0 K K x1 ((r0).2).1 (((r0).2).2).1 (r0).1) := by kernel_rfl
theorem Apply_j0_eq (K k : Nat) (x0 : ByteArray) (x1 : Rf) (x6 : Int) (h : Hp) : Apply_j0 K (k + 1) x0 x1 x6 h =
  chk (leI (0 : Int) (0 : Int)) (chk (leI (0 : Int) x6) (chk (ltI x6 (1000000000000 : Int)) (Apply_l0 K k x0 x6 (List.replicate (Int.toNat (0 : Int)) (0 : Int)) (0 : Int) x1 ((rlen x1) : Int) (0 : Int) h))) := by kernel_rfl
theorem Apply_l0_eq (K k : Nat) (x0 : ByteArray) (x6 : Int) (x8 : List (Int)) (x9 : Int) (x24 : Rf) (x25 : Int) (x26 : Int) (h : Hp) : Apply_l0 K (k + 1) x0 x6 x8 x9 x24 x25 x26 h =
  br (ltI x26 x25)
  (Apply_j1 K k x0 x6 x8 x9 x24 x25 x26 h)
  (Apply_j2 K k x0 x6 x8 x9 h) := by kernel_rfl
theorem Apply_j1_eq (K k : Nat) (x0 : ByteArray) (x6 : Int) (x8 : List (Int)) (x9 : Int) (x24 : Rf) (x25 : Int) (x26 : Int) (h : Hp) : Apply_j1 K (k + 1) x0 x6 x8 x9 x24 x25 x26 h =
  chk (leI (0 : Int) x26) (chk (ltI x26 ((rlen x24) : Int)) (Option.bind ((Hp.ld h (.p TS1) (radr 3 (Int.toNat x26) x24))) fun r0 =>
  br (ltI x9 (r0).1)
  (chk (leI (0 : Int) x9) (chk (leI x9 (r0).1) (chk (leI (r0).1 ((ByteArray.size x0) : Int)) (chk (ltI (((List.length x8) : Int) + ((List.length (bytesI (ByteArray.extract x0 (Int.toNat x9) (Int.toNat (r0).1)))) : Int)) (1000000000000 : Int)) (Apply_j3 K k x0 x6 (x8 ++ (bytesI (ByteArray.extract x0 (Int.toNat x9) (Int.toNat (r0).1)))) (0 : Int) (r0 :: []) x24 x25 x26 h)))))
  (Apply_j3 K k x0 x6 x8 (0 : Int) (r0 :: []) x24 x25 x26 h))) := by kernel_rfl
theorem Apply_j2_eq (K k : Nat) (x0 : ByteArray) (x6 : Int) (x8 : List (Int)) (x9 : Int) (h : Hp) : Apply_j2 K (k + 1) x0 x6 x8 x9 h =
  chk (leI (0 : Int) x9) (chk (leI x9 ((ByteArray.size x0) : Int)) (chk (leI ((ByteArray.size x0) : Int) ((ByteArray.size x0) : Int)) (chk (ltI (((List.length x8) : Int) + ((List.length (bytesI (ByteArray.extract x0 (Int.toNat x9) (Int.toNat ((ByteArray.size x0) : Int))))) : Int)) (1000000000000 : Int)) (br (Bool.not (eqI ((List.length (x8 ++ (bytesI (ByteArray.extract x0 (Int.toNat x9) (Int.toNat ((ByteArray.size x0) : Int)))))) : Int) x6))
  (none)
  (some (h, ((strOfBytes (x8 ++ (bytesI (ByteArray.extract x0 (Int.toNat x9) (Int.toNat ((ByteArray.size x0) : Int)))))), If.nil))))))) := by kernel_rfl
theorem Apply_j3_eq (K k : Nat) (x0 : ByteArray) (x6 : Int) (x8 : List (Int)) (i11 : Int) (x11 : List (TS1.den)) (x24 : Rf) (x25 : Int) (x26 : Int) (h : Hp) : Apply_j3 K (k + 1) x0 x6 x8 i11 x11 x24 x25 x26 h =
  chk (ltI (((List.length x8) : Int) + ((List.length (bytesI (((nth TS1 x11 i11)).2).2)) : Int)) (1000000000000 : Int)) (Apply_l0 K k x0 x6 (x8 ++ (bytesI (((nth TS1 x11 i11)).2).2)) (((nth TS1 x11 i11)).2).1 x24 x25 (IntKind.wrap IntKind.i64 (x26 + (1 : Int))) h) := by kernel_rfl
theorem edits_eq (K : Nat) (x0 : Hp) (x1 : List TS1.den) : edits (K + 1) x0 x1 =
  edits_l0 K K Rf.nil x1 ((List.length x1) : Int) (0 : Int) x0 := by kernel_rfl
theorem edits_l0_eq (K k : Nat) (x3 : Rf) (x6 : List (TS1.den)) (x7 : Int) (x8 : Int) (h : Hp) : edits_l0 K (k + 1) x3 x6 x7 x8 h =
  br (ltI x8 x7)
  (edits_j0 K k x3 x6 x7 x8 h)
  (some (h, x3)) := by kernel_rfl
theorem edits_j0_eq (K k : Nat) (x3 : Rf) (x6 : List (TS1.den)) (x7 : Int) (x8 : Int) (h : Hp) : edits_j0 K (k + 1) x3 x6 x7 x8 h =
  chk (leI (0 : Int) x8) (chk (ltI x8 ((List.length x6) : Int)) (Option.bind ((Hp.cs (Hp.new h (74 : TypeId) (.p TS1) ((((nth TS1 x6 x8)).1, ((((nth TS1 x6 x8)).2).1, (((nth TS1 x6 x8)).2).2)) :: [])) 3 (Rf.at (h).1 0 1))) fun r0 =>
  chk (ltI (((rlen x3) : Int) + ((r0).2 : Int)) (1000000000000 : Int)) (Option.bind ((Hp.app (Hp.new h (74 : TypeId) (.p TS1) ((((nth TS1 x6 x8)).1, ((((nth TS1 x6 x8)).2).1, (((nth TS1 x6 x8)).2).2)) :: [])) (74 : TypeId) 3 (r0).1 (r0).2 x3)) fun r1 =>
  edits_l0 K k (r1).1 x6 x7 (IntKind.wrap IntKind.i64 (x8 + (1 : Int))) (r1).2))) := by kernel_rfl
theorem word_eq (K : Nat) (x0 : Hp) (x1 : If) : word (K + 1) x0 x1 =
  br (inil x1)
  (some (x0, (ByteArray.mk (List.toArray []))))
  (word_j0 K K x1 x0) := by kernel_rfl
theorem word_j0_eq (K k : Nat) (x0 : If) (h : Hp) : word_j0 K (k + 1) x0 h =
  br (itag (123 : TypeId) x0)
  (Option.bind ((ifp (123 : TypeId) x0)) fun r0 =>
   Option.bind (errors_errorString_Error K h r0) fun r1 =>
   some ((r1).1, (r1).2))
  (none) := by kernel_rfl
theorem udiff_SortEdits_eq (K : Nat) (x0 : Hp) (x1 : Rf) : udiff_SortEdits (K + 1) x0 x1 =
  Option.bind (Stable K x0 (If.sl 82 x1)) fun r0 =>
  some r0 := by kernel_rfl
theorem ApplyBytes_eq (K : Nat) (x0 : Hp) (x1 : List Int) (x2 : Rf) : ApplyBytes (K + 1) x0 x1 x2 =
  Option.bind (Apply K x0 (strOfBytes x1) x2) fun r0 =>
  some ((Hp.push (r0).1 (Obj.ro (roBytes ((r0).2).1))), ((Rf.at ((r0).1).1 0 (ByteArray.size ((r0).2).1)), ((r0).2).2)) := by kernel_rfl
theorem Merge_eq (K : Nat) (x0 : Hp) (x1 : Rf) (x2 : Rf) : Merge (K + 1) x0 x1 x2 =
  Option.bind (Edit_ K x0 x1) fun r0 =>
  Option.bind (Edit_ K (r0).1 x2) fun r1 =>
  Merge_l0 K K (r0).2 (r1).2 (Pf.at ((r1).1).1 0) (Pf.at ((r1).1).1 0) (0 : Int) (0 : Int) (Hp.box (r1).1 57 (.sr) Rf.nil) := by kernel_rfl
theorem Merge_l0_eq (K k : Nat) (x0 : Rf) (x1 : Rf) (x6 : Pf) (c7_0 : Pf) (x8 : Int) (x9 : Int) (h : Hp) : Merge_l0 K (k + 1) x0 x1 x6 c7_0 x8 x9 h =
  br (ltI x8 ((rlen x0) : Int))
  (br (ltI x9 ((rlen x1) : Int))
   (Merge_j0 K k x0 x1 x6 c7_0 x8 x9 h)
   (Merge_l1 K k x0 x1 x6 c7_0 x8 x9 h))
  (Merge_l1 K k x0 x1 x6 c7_0 x8 x9 h) := by kernel_rfl
theorem Merge_j0_eq (K k : Nat) (x0 : Rf) (x1 : Rf) (x6 : Pf) (c7_0 : Pf) (x8 : Int) (x9 : Int) (h : Hp) : Merge_j0 K (k + 1) x0 x1 x6 c7_0 x8 x9 h =
  chk (leI (0 : Int) x8) (chk (ltI x8 ((rlen x0) : Int)) (chk (leI (0 : Int) x9) (chk (ltI x9 ((rlen x1) : Int)) (chk (Bool.not (pnil (radr 3 (Int.toNat x8) x0))) (Option.bind ((Hp.ld h (.p TS1) (radr 3 (Int.toNat x8) x0))) fun r0 =>
  chk (Bool.not (pnil (radr 3 (Int.toNat x9) x1))) (Option.bind ((Hp.ld h (.p TS1) (radr 3 (Int.toNat x9) x1))) fun r1 =>
  br (Bool.and (eqI (r0).1 (r1).1) (Bool.and (eqI ((r0).2).1 ((r1).2).1) (eqS ((r0).2).2 ((r1).2).2)))
  (chk (Bool.not (pnil (radr 3 (Int.toNat x8) x0))) (Option.bind ((Hp.ld h (.p TS1) (radr 3 (Int.toNat x8) x0))) fun r2 =>
   br (Nat.beq 60 (60 : Go.FuncId))
   (Option.bind (Merge_1 K h r2 c7_0) fun r3 =>
    Merge_l0 K k x0 x1 x6 c7_0 (IntKind.wrap IntKind.i64 (x8 + (1 : Int))) (IntKind.wrap IntKind.i64 (x9 + (1 : Int))) r3)
   (none)))
  (chk (Bool.not (pnil (radr 3 (Int.toNat x8) x0))) (chk (Bool.not (pnil (radr 3 (Int.toNat x8) x0))) (Option.bind ((Hp.ld h (.p (.int (.i64))) (padd 1 (radr 3 (Int.toNat x8) x0)))) fun r2 =>
   chk (Bool.not (pnil (radr 3 (Int.toNat x9) x1))) (chk (Bool.not (pnil (radr 3 (Int.toNat x9) x1))) (Option.bind ((Hp.ld h (.p (.int (.i64))) (padd 0 (radr 3 (Int.toNat x9) x1)))) fun r3 =>
   br (leI r2 r3)
   (chk (Bool.not (pnil (radr 3 (Int.toNat x8) x0))) (Option.bind ((Hp.ld h (.p TS1) (radr 3 (Int.toNat x8) x0))) fun r4 =>
    br (Nat.beq 60 (60 : Go.FuncId))
    (Option.bind (Merge_1 K h r4 c7_0) fun r5 =>
     Merge_l0 K k x0 x1 x6 c7_0 (IntKind.wrap IntKind.i64 (x8 + (1 : Int))) x9 r5)
    (none)))
   (chk (Bool.not (pnil (radr 3 (Int.toNat x9) x1))) (chk (Bool.not (pnil (radr 3 (Int.toNat x9) x1))) (Option.bind ((Hp.ld h (.p (.int (.i64))) (padd 1 (radr 3 (Int.toNat x9) x1)))) fun r4 =>
    chk (Bool.not (pnil (radr 3 (Int.toNat x8) x0))) (chk (Bool.not (pnil (radr 3 (Int.toNat x8) x0))) (Option.bind ((Hp.ld h (.p (.int (.i64))) (padd 0 (radr 3 (Int.toNat x8) x0)))) fun r5 =>
    br (leI r4 r5)
    (chk (Bool.not (pnil (radr 3 (Int.toNat x9) x1))) (Option.bind ((Hp.ld h (.p TS1) (radr 3 (Int.toNat x9) x1))) fun r6 =>
     br (Nat.beq 60 (60 : Go.FuncId))
     (Option.bind (Merge_1 K h r6 c7_0) fun r7 =>
      Merge_l0 K k x0 x1 x6 c7_0 x8 (IntKind.wrap IntKind.i64 (x9 + (1 : Int))) r7)
     (none)))
    (chk (Bool.not (pnil (radr 3 (Int.toNat x8) x0))) (chk (Bool.not (pnil (radr 3 (Int.toNat x8) x0))) (Option.bind ((Hp.ld h (.p (.int (.i64))) (padd 0 (radr 3 (Int.toNat x8) x0)))) fun r6 =>
     chk (Bool.not (pnil (radr 3 (Int.toNat x9) x1))) (chk (Bool.not (pnil (radr 3 (Int.toNat x9) x1))) (Option.bind ((Hp.ld h (.p (.int (.i64))) (padd 0 (radr 3 (Int.toNat x9) x1)))) fun r7 =>
     br (ltI r6 r7)
     (chk (Bool.not (pnil (radr 3 (Int.toNat x8) x0))) (chk (Bool.not (pnil (radr 3 (Int.toNat x8) x0))) (Option.bind ((Hp.ld h (.p (.int (.i64))) (padd 0 (radr 3 (Int.toNat x8) x0)))) fun r8 =>
      chk (Bool.not (pnil (radr 3 (Int.toNat x9) x1))) (chk (Bool.not (pnil (radr 3 (Int.toNat x9) x1))) (Option.bind ((Hp.ld h (.p (.int (.i64))) (padd 0 (radr 3 (Int.toNat x9) x1)))) fun r9 =>
      br (Nat.beq 60 (60 : Go.FuncId))
      (Option.bind (Merge_1 K h (r8, (r9, (ByteArray.mk (List.toArray [])))) c7_0) fun r10 =>
       chk (Bool.not (pnil (radr 3 (Int.toNat x9) x1))) (chk (Bool.not (pnil (radr 3 (Int.toNat x9) x1))) (Option.bind ((Hp.ld r10 (.p (.int (.i64))) (padd 0 (radr 3 (Int.toNat x9) x1)))) fun r11 =>
       chk (Bool.not (pnil (radr 3 (Int.toNat x8) x0))) (chk (Bool.not (pnil (radr 3 (Int.toNat x8) x0))) (Option.bind ((Hp.st r10 (.p (.int (.i64))) (padd 0 (radr 3 (Int.toNat x8) x0)) r11)) fun r12 =>
       Merge_l0 K k x0 x1 x6 c7_0 x8 x9 r12)))))
      (none))))))
     (chk (Bool.not (pnil (radr 3 (Int.toNat x9) x1))) (chk (Bool.not (pnil (radr 3 (Int.toNat x9) x1))) (Option.bind ((Hp.ld h (.p (.int (.i64))) (padd 0 (radr 3 (Int.toNat x9) x1)))) fun r8 =>
      chk (Bool.not (pnil (radr 3 (Int.toNat x8) x0))) (chk (Bool.not (pnil (radr 3 (Int.toNat x8) x0))) (Option.bind ((Hp.ld h (.p (.int (.i64))) (padd 0 (radr 3 (Int.toNat x8) x0)))) fun r9 =>
      br (ltI r8 r9)
      (chk (Bool.not (pnil (radr 3 (Int.toNat x9) x1))) (chk (Bool.not (pnil (radr 3 (Int.toNat x9) x1))) (Option.bind ((Hp.ld h (.p (.int (.i64))) (padd 0 (radr 3 (Int.toNat x9) x1)))) fun r10 =>
       chk (Bool.not (pnil (radr 3 (Int.toNat x8) x0))) (chk (Bool.not (pnil (radr 3 (Int.toNat x8) x0))) (Option.bind ((Hp.ld h (.p (.int (.i64))) (padd 0 (radr 3 (Int.toNat x8) x0)))) fun r11 =>
       br (Nat.beq 60 (60 : Go.FuncId))
       (Option.bind (Merge_1 K h (r10, (r11, (ByteArray.mk (List.toArray [])))) c7_0) fun r12 =>
        chk (Bool.not (pnil (radr 3 (Int.toNat x8) x0))) (chk (Bool.not (pnil (radr 3 (Int.toNat x8) x0))) (Option.bind ((Hp.ld r12 (.p (.int (.i64))) (padd 0 (radr 3 (Int.toNat x8) x0)))) fun r13 =>
        chk (Bool.not (pnil (radr 3 (Int.toNat x9) x1))) (chk (Bool.not (pnil (radr 3 (Int.toNat x9) x1))) (Option.bind ((Hp.st r12 (.p (.int (.i64))) (padd 0 (radr 3 (Int.toNat x9) x1)) r13)) fun r14 =>
        Merge_l0 K k x0 x1 x6 c7_0 x8 x9 r14)))))
       (none))))))
      (some (h, (Rf.nil, Bool.false))))))))))))))))))))))))))))) := by kernel_rfl
theorem Merge_l1_eq (K k : Nat) (x0 : Rf) (x1 : Rf) (x6 : Pf) (c7_0 : Pf) (x8 : Int) (x9 : Int) (h : Hp) : Merge_l1 K (k + 1) x0 x1 x6 c7_0 x8 x9 h =
  br (ltI x8 ((rlen x0) : Int))
  (Merge_j1 K k x0 x1 x6 c7_0 x8 x9 h)
  (Merge_l2 K k x1 x6 c7_0 x9 h) := by kernel_rfl
theorem Merge_j1_eq (K k : Nat) (x0 : Rf) (x1 : Rf) (x6 : Pf) (c7_0 : Pf) (x8 : Int) (x9 : Int) (h : Hp) : Merge_j1 K (k + 1) x0 x1 x6 c7_0 x8 x9 h =
  chk (leI (0 : Int) x8) (chk (ltI x8 ((rlen x0) : Int)) (Option.bind ((Hp.ld h (.p TS1) (radr 3 (Int.toNat x8) x0))) fun r0 =>
  br (Nat.beq 60 (60 : Go.FuncId))
  (Option.bind (Merge_1 K h r0 c7_0) fun r1 =>
   Merge_l1 K k x0 x1 x6 c7_0 (IntKind.wrap IntKind.i64 (x8 + (1 : Int))) x9 r1)
  (none))) := by kernel_rfl
theorem Merge_l2_eq (K k : Nat) (x1 : Rf) (x6 : Pf) (c7_0 : Pf) (x9 : Int) (h : Hp) : Merge_l2 K (k + 1) x1 x6 c7_0 x9 h =
  br (ltI x9 ((rlen x1) : Int))
  (Merge_j2 K k x1 x6 c7_0 x9 h)
  (Option.bind ((Hp.ld h (.sr) x6)) fun r0 =>
   some (h, (r0, Bool.true))) := by kernel_rfl
theorem Merge_j2_eq (K k : Nat) (x1 : Rf) (x6 : Pf) (c7_0 : Pf) (x9 : Int) (h : Hp) : Merge_j2 K (k + 1) x1 x6 c7_0 x9 h =
  chk (leI (0 : Int) x9) (chk (ltI x9 ((rlen x1) : Int)) (Option.bind ((Hp.ld h (.p TS1) (radr 3 (Int.toNat x9) x1))) fun r0 =>
  br (Nat.beq 60 (60 : Go.FuncId))
  (Option.bind (Merge_1 K h r0 c7_0) fun r1 =>
   Merge_l2 K k x1 x6 c7_0 (IntKind.wrap IntKind.i64 (x9 + (1 : Int))) r1)
  (none))) := by kernel_rfl
theorem isASCII_string__eq (K : Nat) (x0 : ByteArray) : isASCII_string_ (K + 1) x0 =
  isASCII_string__l0 K K x0 (0 : Int) := by kernel_rfl
theorem isASCII_string__l0_eq (K k : Nat) (x0 : ByteArray) (x3 : Int) : isASCII_string__l0 K (k + 1) x0 x3 =
  br (ltI x3 ((ByteArray.size x0) : Int))
  (isASCII_string__j0 K k x0 x3)
  (some Bool.true) := by kernel_rfl
theorem isASCII_string__j0_eq (K k : Nat) (x0 : ByteArray) (x3 : Int) : isASCII_string__j0 K (k + 1) x0 x3 =
  chk (leI (0 : Int) x3) (chk (ltI x3 ((ByteArray.size x0) : Int)) (br (leI (128 : Int) (bt x0 x3))
  (some Bool.false)
  (isASCII_string__l0 K k x0 (IntKind.wrap IntKind.i64 (x3 + (1 : Int)))))) := by kernel_rfl
theorem diffASCII_eq (K : Nat) (x0 : Hp) (x1 : Rf) (x2 : Rf) : diffASCII (K + 1) x0 x1 x2 =
  Option.bind (DiffBytes K x0 x1 x2) fun r0 =>
  chk (leI (0 : Int) ((List.length (r0).2) : Int)) (chk (leI ((List.length (r0).2) : Int) ((List.length (r0).2) : Int)) (chk (ltI ((List.length (r0).2) : Int) (1000000000000 : Int)) (diffASCII_l0 K K x2 (Rf.at ((r0).1).1 0 (Int.toNat ((List.length (r0).2) : Int))) (r0).2 ((List.length (r0).2) : Int) (0 : Int) (Hp.new (r0).1 (74 : TypeId) (.p TS1) (List.replicate (Int.toNat ((List.length (r0).2) : Int)) ((0 : Int), ((0 : Int), (ByteArray.mk (List.toArray []))))))))) := by kernel_rfl
theorem diffASCII_l0_eq (K k : Nat) (x1 : Rf) (x6 : Rf) (x15 : List (TS0.den)) (x16 : Int) (x17 : Int) (h : Hp) : diffASCII_l0 K (k + 1) x1 x6 x15 x16 x17 h =
  br (ltI x17 x16)
  (diffASCII_j0 K k x1 x6 x15 x16 x17 h)
  (some (h, x6)) := by kernel_rfl
theorem diffASCII_j0_eq (K k : Nat) (x1 : Rf) (x6 : Rf) (x15 : List (TS0.den)) (x16 : Int) (x17 : Int) (h : Hp) : diffASCII_j0 K (k + 1) x1 x6 x15 x16 x17 h =
  chk (leI (0 : Int) x17) (chk (ltI x17 ((List.length x15) : Int)) (chk (leI (0 : Int) ((((nth TS0 x15 x17)).2).2).1) (chk (leI ((((nth TS0 x15 x17)).2).2).1 ((((nth TS0 x15 x17)).2).2).2) (chk (leI ((((nth TS0 x15 x17)).2).2).2 ((rlen x1) : Int)) (Option.bind ((Hp.rd h (.int (.u8)) (rcut 1 (Int.toNat ((((nth TS0 x15 x17)).2).2).1) (Int.toNat ((((nth TS0 x15 x17)).2).2).2) x1))) fun r0 =>
  chk (leI (0 : Int) x17) (chk (ltI x17 ((rlen x6) : Int)) (Option.bind ((Hp.st h (.p TS1) (radr 3 (Int.toNat x17) x6) (((nth TS0 x15 x17)).1, ((((nth TS0 x15 x17)).2).1, (strOfBytes r0))))) fun r1 =>
  diffASCII_l0 K k x1 x6 x15 x16 (IntKind.wrap IntKind.i64 (x17 + (1 : Int))) r1))))))) := by kernel_rfl
theorem diffRunes_eq (K : Nat) (x0 : Hp) (x1 : Rf) (x2 : Rf) : diffRunes (K + 1) x0 x1 x2 =
  Option.bind (DiffRunes K x0 x1 x2) fun r0 =>
  chk (leI (0 : Int) ((List.length (r0).2) : Int)) (chk (leI ((List.length (r0).2) : Int) ((List.length (r0).2) : Int)) (chk (ltI ((List.length (r0).2) : Int) (1000000000000 : Int)) (diffRunes_l0 K K x1 x2 (Rf.at ((r0).1).1 0 (Int.toNat ((List.length (r0).2) : Int))) (0 : Int) (0 : Int) (r0).2 ((List.length (r0).2) : Int) (0 : Int) (Hp.new (r0).1 (74 : TypeId) (.p TS1) (List.replicate (Int.toNat ((List.length (r0).2) : Int)) ((0 : Int), ((0 : Int), (ByteArray.mk (List.toArray []))))))))) := by kernel_rfl
theorem diffRunes_l0_eq (K k : Nat) (x0 : Rf) (x1 : Rf) (x6 : Rf) (x7 : Int) (x8 : Int) (x18 : List (TS0.den)) (x19 : Int) (x20 : Int) (h : Hp) : diffRunes_l0 K (k + 1) x0 x1 x6 x7 x8 x18 x19 x20 h =
  br (ltI x20 x19)
  (diffRunes_j0 K k x0 x1 x6 x7 x8 x18 x19 x20 h)
  (some (h, x6)) := by kernel_rfl
theorem diffRunes_j0_eq (K k : Nat) (x0 : Rf) (x1 : Rf) (x6 : Rf) (x7 : Int) (x8 : Int) (x18 : List (TS0.den)) (x19 : Int) (x20 : Int) (h : Hp) : diffRunes_j0 K (k + 1) x0 x1 x6 x7 x8 x18 x19 x20 h =
  chk (leI (0 : Int) x20) (chk (ltI x20 ((List.length x18) : Int)) (chk (leI (0 : Int) x7) (chk (leI x7 ((nth TS0 x18 x20)).1) (chk (leI ((nth TS0 x18 x20)).1 ((rlen x0) : Int)) (Option.bind ((Hp.rd h (.int (.i32)) (rcut 1 (Int.toNat x7) (Int.toNat ((nth TS0 x18 x20)).1) x0))) fun r0 =>
  Option.bind (runesLen K r0) fun r1 =>
  chk (leI (0 : Int) ((nth TS0 x18 x20)).1) (chk (leI ((nth TS0 x18 x20)).1 (((nth TS0 x18 x20)).2).1) (chk (leI (((nth TS0 x18 x20)).2).1 ((rlen x0) : Int)) (Option.bind ((Hp.rd h (.int (.i32)) (rcut 1 (Int.toNat ((nth TS0 x18 x20)).1) (Int.toNat (((nth TS0 x18 x20)).2).1) x0))) fun r2 =>
  Option.bind (runesLen K r2) fun r3 =>
  chk (leI (0 : Int) ((((nth TS0 x18 x20)).2).2).1) (chk (leI ((((nth TS0 x18 x20)).2).2).1 ((((nth TS0 x18 x20)).2).2).2) (chk (leI ((((nth TS0 x18 x20)).2).2).2 ((rlen x1) : Int)) (Option.bind ((Hp.rd h (.int (.i32)) (rcut 1 (Int.toNat ((((nth TS0 x18 x20)).2).2).1) (Int.toNat ((((nth TS0 x18 x20)).2).2).2) x1))) fun r4 =>
  chk (leI (0 : Int) x20) (chk (ltI x20 ((rlen x6) : Int)) (Option.bind ((Hp.st h (.p TS1) (radr 3 (Int.toNat x20) x6) ((IntKind.wrap IntKind.i64 (x8 + r1)), ((IntKind.wrap IntKind.i64 ((IntKind.wrap IntKind.i64 (x8 + r1)) + r3)), (strOfRunes r4))))) fun r5 =>
  diffRunes_l0 K k x0 x1 x6 (((nth TS0 x18 x20)).2).1 (IntKind.wrap IntKind.i64 ((IntKind.wrap IntKind.i64 (x8 + r1)) + r3)) x18 x19 (IntKind.wrap IntKind.i64 (x20 + (1 : Int))) r5))))))))))))) := by kernel_rfl
theorem validate_eq (K : Nat) (x0 : Hp) (x1 : ByteArray) (x2 : Rf) : validate (K + 1) x0 x1 x2 =
  Option.bind (IsSorted K x0 (If.sl 82 x2)) fun r0 =>
  br (Bool.not (r0).2)
  (Option.bind (Edit_ K (r0).1 x2) fun r1 =>
   Option.bind (udiff_SortEdits K (r1).1 (r1).2) fun r2 =>
   validate_j0 K K x1 (r1).2 r2)
  (validate_j0 K K x1 x2 (r0).1) := by kernel_rfl
theorem validate_j0_eq (K k : Nat) (x0 : ByteArray) (x1 : Rf) (h : Hp) : validate_j0 K (k + 1) x0 x1 h =
  validate_l0 K k x0 x1 ((ByteArray.size x0) : Int) (0 : Int) x1 ((rlen x1) : Int) (0 : Int) h := by kernel_rfl
theorem validate_l0_eq (K k : Nat) (x0 : ByteArray) (x1 : Rf) (x7 : Int) (x8 : Int) (x21 : Rf) (x22 : Int) (x23 : Int) (h : Hp) : validate_l0 K (k + 1) x0 x1 x7 x8 x21 x22 x23 h =
  br (ltI x23 x22)
  (validate_j1 K k x0 x1 x7 x8 x21 x22 x23 h)
  (validate_j2 K k x1 x7 h) := by kernel_rfl
theorem validate_j1_eq (K k : Nat) (x0 : ByteArray) (x1 : Rf) (x7 : Int) (x8 : Int) (x21 : Rf) (x22 : Int) (x23 : Int) (h : Hp) : validate_j1 K (k + 1) x0 x1 x7 x8 x21 x22 x23 h =
  chk (leI (0 : Int) x23) (chk (ltI x23 ((rlen x21) : Int)) (Option.bind ((Hp.ld h (.p TS1) (radr 3 (Int.toNat x23) x21))) fun r0 =>
  br (leI (0 : Int) (r0).1)
  (br (leI (r0).1 ((r0).2).1)
   (validate_j3 K k x0 x1 x7 x8 (0 : Int) (r0 :: []) x21 x22 x23 (Bool.not (leI ((r0).2).1 ((ByteArray.size x0) : Int))) h)
   (validate_j3 K k x0 x1 x7 x8 (0 : Int) (r0 :: []) x21 x22 x23 (Bool.not Bool.false) h))
  (validate_j3 K k x0 x1 x7 x8 (0 : Int) (r0 :: []) x21 x22 x23 (Bool.not Bool.false) h))) := by kernel_rfl
theorem validate_j2_eq (K k : Nat) (x1 : Rf) (x7 : Int) (h : Hp) : validate_j2 K (k + 1) x1 x7 h =
  some (h, (x1, (x7, If.nil))) := by kernel_rfl
theorem validate_j3_eq (K k : Nat) (x0 : ByteArray) (x1 : Rf) (x7 : Int) (x8 : Int) (i10 : Int) (x10 : List (TS1.den)) (x21 : Rf) (x22 : Int) (x23 : Int) (x44 : Bool) (h : Hp) : validate_j3 K (k + 1) x0 x1 x7 x8 i10 x10 x21 x22 x23 x44 h =
  br x44
  (Option.bind (New K h (ByteArray.mk (List.toArray ((100 : UInt8) :: ((105 : UInt8) :: ((102 : UInt8) :: ((102 : UInt8) :: ((32 : UInt8) :: ((104 : UInt8) :: ((97 : UInt8) :: ((115 : UInt8) :: ((32 : UInt8) :: ((111 : UInt8) :: ((117 : UInt8) :: ((116 : UInt8) :: ((45 : UInt8) :: ((111 : UInt8) :: ((102 : UInt8) :: ((45 : UInt8) :: ((98 : UInt8) :: ((111 : UInt8) :: ((117 : UInt8) :: ((110 : UInt8) :: ((100 : UInt8) :: ((115 : UInt8) :: ((32 : UInt8) :: ((101 : UInt8) :: ((100 : UInt8) :: ((105 : UInt8) :: ((116 : UInt8) :: ((115 : UInt8) :: []))))))))))))))))))))))))))))))) fun r0 =>
   some ((r0).1, (Rf.nil, ((0 : Int), (r0).2))))
  (validate_j4 K k x0 x1 x7 x8 i10 x10 x21 x22 x23 h) := by kernel_rfl
theorem validate_j4_eq (K k : Nat) (x0 : ByteArray) (x1 : Rf) (x7 : Int) (x8 : Int) (i10 : Int) (x10 : List (TS1.den)) (x21 : Rf) (x22 : Int) (x23 : Int) (h : Hp) : validate_j4 K (k + 1) x0 x1 x7 x8 i10 x10 x21 x22 x23 h =
  br (ltI ((nth TS1 x10 i10)).1 x8)
  (Option.bind (New K h (ByteArray.mk (List.toArray ((100 : UInt8) :: ((105 : UInt8) :: ((102 : UInt8) :: ((102 : UInt8) :: ((32 : UInt8) :: ((104 : UInt8) :: ((97 : UInt8) :: ((115 : UInt8) :: ((32 : UInt8) :: ((111 : UInt8) :: ((118 : UInt8) :: ((101 : UInt8) :: ((114 : UInt8) :: ((108 : UInt8) :: ((97 : UInt8) :: ((112 : UInt8) :: ((112 : UInt8) :: ((105 : UInt8) :: ((110 : UInt8) :: ((103 : UInt8) :: ((32 : UInt8) :: ((101 : UInt8) :: ((100 : UInt8) :: ((105 : UInt8) :: ((116 : UInt8) :: ((115 : UInt8) :: []))))))))))))))))))))))))))))) fun r0 =>
   some ((r0).1, (Rf.nil, ((0 : Int), (r0).2))))
  (validate_j5 K k x0 x1 x7 i10 x10 x21 x22 x23 h) := by kernel_rfl
theorem validate_j5_eq (K k : Nat) (x0 : ByteArray) (x1 : Rf) (x7 : Int) (i10 : Int) (x10 : List (TS1.den)) (x21 : Rf) (x22 : Int) (x23 : Int) (h : Hp) : validate_j5 K (k + 1) x0 x1 x7 i10 x10 x21 x22 x23 h =
  validate_l0 K k x0 x1 (IntKind.wrap IntKind.i64 (x7 + (IntKind.wrap IntKind.i64 ((IntKind.wrap IntKind.i64 (((ByteArray.size (((nth TS1 x10 i10)).2).2) : Int) + ((nth TS1 x10 i10)).1)) - (((nth TS1 x10 i10)).2).1)))) (((nth TS1 x10 i10)).2).1 x21 x22 (IntKind.wrap IntKind.i64 (x23 + (1 : Int))) h := by kernel_rfl
theorem Stable_eq (K : Nat) (x0 : Hp) (x1 : If) : Stable (K + 1) x0 x1 =
  br (itag (82 : TypeId) x1)
  (Option.bind ((ifs (82 : TypeId) x1)) fun r0 =>
   Option.bind (udiff_editsSort_Len K x0 r0) fun r1 =>
   Option.bind (stable K (r1).1 x1 (r1).2) fun r2 =>
   some r2)
  (none) := by kernel_rfl
theorem DiffLines_eq (K : Nat) (x0 : Hp) (x1 : Rf) (x2 : Rf) : DiffLines (K + 1) x0 x1 x2 =
  Option.bind (diff K x0 (If.two 111 x1 x2)) fun r0 =>
  some ((r0).1, (r0).2) := by kernel_rfl
theorem Edit__eq (K : Nat) (x0 : Hp) (x1 : Rf) : Edit_ (K + 1) x0 x1 =
  chk (rsure x1) (br (rnil x1)
  (some (x0, Rf.nil))
  (Edit__j0 K K x1 x0)) := by kernel_rfl
theorem Edit__j0_eq (K k : Nat) (x0 : Rf) (h : Hp) : Edit__j0 K (k + 1) x0 h =
  Option.bind ((Hp.cs (Hp.new h (74 : TypeId) (.p TS1) []) 3 x0)) fun r0 =>
  chk (ltI (((rlen (Rf.at (h).1 0 0)) : Int) + ((r0).2 : Int)) (1000000000000 : Int)) (Option.bind ((Hp.app (Hp.new h (74 : TypeId) (.p TS1) []) (74 : TypeId) 3 (r0).1 (r0).2 (Rf.at (h).1 0 0))) fun r1 =>
  some ((r1).2, (r1).1)) := by kernel_rfl
theorem Merge_1_eq (K : Nat) (x0 : Hp) (x1 : TS1.den) (x2 : Pf) : Merge_1 (K + 1) x0 x1 x2 =
  Option.bind ((Hp.ld x0 (.sr) x2)) fun r0 =>
  Option.bind ((Hp.cs (Hp.new x0 (74 : TypeId) (.p TS1) (x1 :: [])) 3 (Rf.at (x0).1 0 1))) fun r1 =>
  chk (ltI (((rlen r0) : Int) + ((r1).2 : Int)) (1000000000000 : Int)) (Option.bind ((Hp.app (Hp.new x0 (74 : TypeId) (.p TS1) (x1 :: [])) (74 : TypeId) 3 (r1).1 (r1).2 r0)) fun r2 =>
  Option.bind ((Hp.st (r2).2 (.sr) x2 (r2).1)) fun r3 =>
  some r3) := by kernel_rfl
theorem DiffBytes_eq (K : Nat) (x0 : Hp) (x1 : Rf) (x2 : Rf) : DiffBytes (K + 1) x0 x1 x2 =
  Option.bind (diff K x0 (If.two 118 x1 x2)) fun r0 =>
  some ((r0).1, (r0).2) := by kernel_rfl
theorem DiffRunes_eq (K : Nat) (x0 : Hp) (x1 : Rf) (x2 : Rf) : DiffRunes (K + 1) x0 x1 x2 =
  Option.bind (diff K x0 (If.two 120 x1 x2)) fun r0 =>
  some ((r0).1, (r0).2) := by kernel_rfl
theorem runesLen_eq (K : Nat) (x0 : List Int) : runesLen (K + 1) x0 =
  runesLen_l0 K K (0 : Int) x0 ((List.length x0) : Int) (0 : Int) := by kernel_rfl
theorem runesLen_l0_eq (K k : Nat) (x2 : Int) (x5 : List (Int)) (x6 : Int) (x7 : Int) : runesLen_l0 K (k + 1) x2 x5 x6 x7 =
  br (ltI x7 x6)
  (runesLen_j0 K k x2 x5 x6 x7)
  (some x2) := by kernel_rfl
theorem runesLen_j0_eq (K k : Nat) (x2 : Int) (x5 : List (Int)) (x6 : Int) (x7 : Int) : runesLen_j0 K (k + 1) x2 x5 x6 x7 =
  chk (leI (0 : Int) x7) (chk (ltI x7 ((List.length x5) : Int)) (Option.bind (RuneLen K (nth (.int (.i32)) x5 x7)) fun r0 =>
  runesLen_l0 K k (IntKind.wrap IntKind.i64 (x2 + r0)) x5 x6 (IntKind.wrap IntKind.i64 (x7 + (1 : Int))))) := by kernel_rfl
theorem IsSorted_eq (K : Nat) (x0 : Hp) (x1 : If) : IsSorted (K + 1) x0 x1 =
  br (itag (82 : TypeId) x1)
  (Option.bind ((ifs (82 : TypeId) x1)) fun r0 =>
   Option.bind (udiff_editsSort_Len K x0 r0) fun r1 =>
   IsSorted_l0 K K x1 (IntKind.wrap IntKind.i64 ((r1).2 - (1 : Int))) (r1).1)
  (none) := by kernel_rfl
theorem IsSorted_l0_eq (K k : Nat) (x0 : If) (x4 : Int) (h : Hp) : IsSorted_l0 K (k + 1) x0 x4 h =
  br (ltI (0 : Int) x4)
  (IsSorted_j0 K k x0 x4 h)
  (some (h, Bool.true)) := by kernel_rfl
theorem IsSorted_j0_eq (K k : Nat) (x0 : If) (x4 : Int) (h : Hp) : IsSorted_j0 K (k + 1) x0 x4 h =
  br (itag (82 : TypeId) x0)
  (Option.bind ((ifs (82 : TypeId) x0)) fun r0 =>
   Option.bind (Less K h r0 x4 (IntKind.wrap IntKind.i64 (x4 - (1 : Int)))) fun r1 =>
   br (r1).2
   (some ((r1).1, Bool.false))
   (IsSorted_l0 K k x0 (IntKind.wrap IntKind.i64 (x4 - (1 : Int))) (r1).1))
  (none) := by kernel_rfl
theorem New_eq (K : Nat) (x0 : Hp) (x1 : ByteArray) : New (K + 1) x0 x1 =
  some ((Hp.new x0 125 (.p TS4) (x1 :: [])), (If.pt 123 (Pf.at (x0).1 ((Int.toNat (0 : Int)) * 1)))) := by kernel_rfl
theorem stable_eq (K : Nat) (x0 : Hp) (x1 : If) (x2 : Int) : stable (K + 1) x0 x1 x2 =
  stable_l0 K K x1 x2 (20 : Int) (0 : Int) (20 : Int) x0 := by kernel_rfl
theorem stable_l0_eq (K k : Nat) (x0 : If) (x1 : Int) (x4 : Int) (x5 : Int) (x6 : Int) (h : Hp) : stable_l0 K (k + 1) x0 x1 x4 x5 x6 h =
  br (leI x6 x1)
  (stable_j0 K k x0 x1 x4 x5 x6 h)
  (stable_j1 K k x0 x1 x4 x5 h) := by kernel_rfl
theorem stable_j0_eq (K k : Nat) (x0 : If) (x1 : Int) (x4 : Int) (x5 : Int) (x6 : Int) (h : Hp) : stable_j0 K (k + 1) x0 x1 x4 x5 x6 h =
  Option.bind (insertionSort K h x0 x5 x6) fun r0 =>
  stable_l0 K k x0 x1 x4 x6 (IntKind.wrap IntKind.i64 (x6 + x4)) r0 := by kernel_rfl
theorem stable_j1_eq (K k : Nat) (x0 : If) (x1 : Int) (x4 : Int) (x5 : Int) (h : Hp) : stable_j1 K (k + 1) x0 x1 x4 x5 h =
  Option.bind (insertionSort K h x0 x5 x1) fun r0 =>
  stable_l1 K k x0 x1 x4 r0 := by kernel_rfl
theorem stable_l1_eq (K k : Nat) (x0 : If) (x1 : Int) (x4 : Int) (h : Hp) : stable_l1 K (k + 1) x0 x1 x4 h =
  br (ltI x4 x1)
  (stable_j2 K k x0 x1 x4 h)
  (some h) := by kernel_rfl
theorem stable_j2_eq (K k : Nat) (x0 : If) (x1 : Int) (x4 : Int) (h : Hp) : stable_j2 K (k + 1) x0 x1 x4 h =
  stable_l2 K k x0 x1 x4 (0 : Int) (IntKind.wrap IntKind.i64 ((2 : Int) * x4)) h := by kernel_rfl
theorem stable_l2_eq (K k : Nat) (x0 : If) (x1 : Int) (x4 : Int) (x5 : Int) (x6 : Int) (h : Hp) : stable_l2 K (k + 1) x0 x1 x4 x5 x6 h =
  br (leI x6 x1)
  (stable_j3 K k x0 x1 x4 x5 x6 h)
  (stable_j4 K k x0 x1 x4 x5 h) := by kernel_rfl
theorem stable_j3_eq (K k : Nat) (x0 : If) (x1 : Int) (x4 : Int) (x5 : Int) (x6 : Int) (h : Hp) : stable_j3 K (k + 1) x0 x1 x4 x5 x6 h =
  Option.bind (symMerge K h x0 x5 (IntKind.wrap IntKind.i64 (x5 + x4)) x6) fun r0 =>
  stable_l2 K k x0 x1 x4 x6 (IntKind.wrap IntKind.i64 (x6 + (IntKind.wrap IntKind.i64 ((2 : Int) * x4)))) r0 := by kernel_rfl
theorem stable_j4_eq (K k : Nat) (x0 : If) (x1 : Int) (x4 : Int) (x5 : Int) (h : Hp) : stable_j4 K (k + 1) x0 x1 x4 x5 h =
  br (ltI (IntKind.wrap IntKind.i64 (x5 + x4)) x1)
  (Option.bind (symMerge K h x0 x5 (IntKind.wrap IntKind.i64 (x5 + x4)) x1) fun r0 =>
   stable_l1 K k x0 x1 (IntKind.wrap IntKind.i64 (x4 * (2 : Int))) r0)
  (stable_l1 K k x0 x1 (IntKind.wrap IntKind.i64 (x4 * (2 : Int))) h) := by kernel_rfl
theorem diff_eq (K : Nat) (x0 : Hp) (x1 : If) : diff (K + 1) x0 x1 =
  Option.bind (compute K x0 x1 (79, []) (50 : Int)) fun r0 =>
  some ((r0).1, ((r0).2).1) := by kernel_rfl
theorem RuneLen_eq (K : Nat) (x0 : Int) : RuneLen (K + 1) x0 =
  br (ltI x0 (0 : Int))
  (some (-1 : Int))
  (br (leI x0 (127 : Int))
   (some (1 : Int))
   (br (leI x0 (2047 : Int))
    (some (2 : Int))
    (br (leI (55296 : Int) x0)
     (RuneLen_j0 K K x0 (leI x0 (57343 : Int)))
     (RuneLen_j0 K K x0 Bool.false)))) := by kernel_rfl
theorem RuneLen_j0_eq (K k : Nat) (x0 : Int) (x12 : Bool) : RuneLen_j0 K (k + 1) x0 x12 =
  br x12
  (some (-1 : Int))
  (br (leI x0 (65535 : Int))
   (some (3 : Int))
   (br (leI x0 (1114111 : Int))
    (some (4 : Int))
    (some (-1 : Int)))) := by kernel_rfl
theorem insertionSort_eq (K : Nat) (x0 : Hp) (x1 : If) (x2 : Int) (x3 : Int) : insertionSort (K + 1) x0 x1 x2 x3 =
  insertionSort_l0 K K x1 x2 x3 (IntKind.wrap IntKind.i64 (x2 + (1 : Int))) x0 := by kernel_rfl
theorem insertionSort_l0_eq (K k : Nat) (x0 : If) (x1 : Int) (x2 : Int) (x6 : Int) (h : Hp) : insertionSort_l0 K (k + 1) x0 x1 x2 x6 h =
  br (ltI x6 x2)
  (insertionSort_j0 K k x0 x1 x2 x6 h)
  (some h) := by kernel_rfl
theorem insertionSort_j0_eq (K k : Nat) (x0 : If) (x1 : Int) (x2 : Int) (x6 : Int) (h : Hp) : insertionSort_j0 K (k + 1) x0 x1 x2 x6 h =
  insertionSort_l1 K k x0 x1 x2 x6 x6 h := by kernel_rfl
theorem insertionSort_l1_eq (K k : Nat) (x0 : If) (x1 : Int) (x2 : Int) (x6 : Int) (x7 : Int) (h : Hp) : insertionSort_l1 K (k + 1) x0 x1 x2 x6 x7 h =
  br (ltI x1 x7)
  (br (itag (82 : TypeId) x0)
   (Option.bind ((ifs (82 : TypeId) x0)) fun r0 =>
    Option.bind (Less K h r0 x7 (IntKind.wrap IntKind.i64 (x7 - (1 : Int)))) fun r1 =>
    br (r1).2
    (insertionSort_j1 K k x0 x1 x2 x6 x7 (r1).1)
    (insertionSort_l0 K k x0 x1 x2 (IntKind.wrap IntKind.i64 (x6 + (1 : Int))) (r1).1))
   (none))
  (insertionSort_l0 K k x0 x1 x2 (IntKind.wrap IntKind.i64 (x6 + (1 : Int))) h) := by kernel_rfl
theorem insertionSort_j1_eq (K k : Nat) (x0 : If) (x1 : Int) (x2 : Int) (x6 : Int) (x7 : Int) (h : Hp) : insertionSort_j1 K (k + 1) x0 x1 x2 x6 x7 h =
  br (itag (82 : TypeId) x0)
  (Option.bind ((ifs (82 : TypeId) x0)) fun r0 =>
   Option.bind (Swap K h r0 x7 (IntKind.wrap IntKind.i64 (x7 - (1 : Int)))) fun r1 =>
   insertionSort_l1 K k x0 x1 x2 x6 (IntKind.wrap IntKind.i64 (x7 - (1 : Int))) r1)
  (none) := by kernel_rfl
theorem symMerge_eq (K : Nat) (x0 : Hp) (x1 : If) (x2 : Int) (x3 : Int) (x4 : Int) : symMerge (K + 1) x0 x1 x2 x3 x4 =
  br (eqI (IntKind.wrap IntKind.i64 (x3 - x2)) (1 : Int))
  (symMerge_l0 K K x1 x2 x3 x4 x0)
  (symMerge_j0 K K x1 x2 x3 x4 x0) := by kernel_rfl
theorem symMerge_l0_eq (K k : Nat) (x0 : If) (x1 : Int) (x8 : Int) (x9 : Int) (h : Hp) : symMerge_l0 K (k + 1) x0 x1 x8 x9 h =
  br (ltI x8 x9)
  (symMerge_j1 K k x0 x1 x8 x9 h)
  (symMerge_j2 K k x0 x1 x8 h) := by kernel_rfl
theorem symMerge_j0_eq (K k : Nat) (x0 : If) (x1 : Int) (x2 : Int) (x3 : Int) (h : Hp) : symMerge_j0 K (k + 1) x0 x1 x2 x3 h =
  br (eqI (IntKind.wrap IntKind.i64 (x3 - x2)) (1 : Int))
  (symMerge_l1 K k x0 x2 x1 x2 h)
  (symMerge_j3 K k x0 x1 x2 x3 h) := by kernel_rfl
theorem symMerge_j1_eq (K k : Nat) (x0 : If) (x1 : Int) (x8 : Int) (x9 : Int) (h : Hp) : symMerge_j1 K (k + 1) x0 x1 x8 x9 h =
  chk (leI (0 : Int) (1 : Int)) (br (itag (82 : TypeId) x0)
  (Option.bind ((ifs (82 : TypeId) x0)) fun r0 =>
   Option.bind (Less K h r0 (IntKind.wrap IntKind.i64 (Int.fdiv (IntKind.wrap IntKind.u64 (IntKind.wrap IntKind.i64 (x8 + x9))) (HPow.hPow (2 : Int) (Min.min (Int.toNat (1 : Int)) (IntKind.bits IntKind.u64))))) x1) fun r1 =>
   br (r1).2
   (symMerge_l0 K k x0 x1 (IntKind.wrap IntKind.i64 ((IntKind.wrap IntKind.i64 (Int.fdiv (IntKind.wrap IntKind.u64 (IntKind.wrap IntKind.i64 (x8 + x9))) (HPow.hPow (2 : Int) (Min.min (Int.toNat (1 : Int)) (IntKind.bits IntKind.u64))))) + (1 : Int))) x9 (r1).1)
   (symMerge_l0 K k x0 x1 x8 (IntKind.wrap IntKind.i64 (Int.fdiv (IntKind.wrap IntKind.u64 (IntKind.wrap IntKind.i64 (x8 + x9))) (HPow.hPow (2 : Int) (Min.min (Int.toNat (1 : Int)) (IntKind.bits IntKind.u64))))) (r1).1))
  (none)) := by kernel_rfl
end Go.Proofs.Ytfglahmbnnkijaa.E
