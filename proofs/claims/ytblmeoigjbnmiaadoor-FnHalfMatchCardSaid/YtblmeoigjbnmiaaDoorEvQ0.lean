import Derived.Test.YtblmeoigjbnmiaaDoorEvT
/- Written by a program of this session (wip/ev4dev): what the functions' places evaluate to. Not trusted: Lean checks it. -/
set_option linter.unusedVariables false
namespace Go.Proofs.YtblmeoigjbnmiaaDoor.E
open Go.Ev
theorem FnHalfMatch_eq (K : Nat) (x0 : ByteArray) (x1 : ByteArray) : FnHalfMatch (K + 1) x0 x1 =
  br (ltI (2147483647 : Int) ((ByteArray.size x0) : Int))
  (FnHalfMatch_j0 K K x0 x1 Bool.true)
  (FnHalfMatch_j0 K K x0 x1 (ltI (2147483647 : Int) ((ByteArray.size x1) : Int))) := by kernel_rfl
theorem FnHalfMatch_j0_eq (K k : Nat) (x0 : ByteArray) (x1 : ByteArray) (x15 : Bool) : FnHalfMatch_j0 K (k + 1) x0 x1 x15 =
  br x15
  (some Bool.true)
  (FnHalfMatch_j1 K k x0 x1) := by kernel_rfl
theorem FnHalfMatch_j1_eq (K k : Nat) (x0 : ByteArray) (x1 : ByteArray) : FnHalfMatch_j1 K (k + 1) x0 x1 =
  Option.bind (IsDiffText K x0 (120 : Int)) fun r0 =>
  br (Bool.not r0)
  (FnHalfMatch_j2 K k x0 x1 Bool.true)
  (Option.bind (IsDiffText K x1 (120 : Int)) fun r1 =>
   FnHalfMatch_j2 K k x0 x1 (Bool.not r1)) := by kernel_rfl
theorem FnHalfMatch_j2_eq (K k : Nat) (x0 : ByteArray) (x1 : ByteArray) (x23 : Bool) : FnHalfMatch_j2 K (k + 1) x0 x1 x23 =
  br x23
  (some Bool.true)
  (FnHalfMatch_j3 K k x0 x1) := by kernel_rfl
theorem FnHalfMatch_j3_eq (K k : Nat) (x0 : ByteArray) (x1 : ByteArray) : FnHalfMatch_j3 K (k + 1) x0 x1 =
  Option.bind (HalfMatch K x0 x1) fun r0 =>
  Option.bind (HalfMatch K (ByteArray.mk (List.toArray ((49 : UInt8) :: ((50 : UInt8) :: ((51 : UInt8) :: ((52 : UInt8) :: ((53 : UInt8) :: ((54 : UInt8) :: ((55 : UInt8) :: ((56 : UInt8) :: ((57 : UInt8) :: ((48 : UInt8) :: [])))))))))))) (ByteArray.mk (List.toArray ((97 : UInt8) :: ((51 : UInt8) :: ((52 : UInt8) :: ((53 : UInt8) :: ((54 : UInt8) :: ((55 : UInt8) :: ((56 : UInt8) :: ((122 : UInt8) :: []))))))))))) fun r1 =>
  br (eqI ((List.length r0) : Int) (0 : Int))
  (some (eqI ((List.length r1) : Int) (5 : Int)))
  (FnHalfMatch_j4 K k x0 x1 r0 (eqI ((List.length r1) : Int) (5 : Int))) := by kernel_rfl
theorem FnHalfMatch_j4_eq (K k : Nat) (x0 : ByteArray) (x1 : ByteArray) (x5 : List (ByteArray)) (x6 : Bool) : FnHalfMatch_j4 K (k + 1) x0 x1 x5 x6 =
  br (Bool.not (eqI ((List.length x5) : Int) (5 : Int)))
  (some Bool.false)
  (FnHalfMatch_j5 K k x0 x1 x5 x6) := by kernel_rfl
theorem FnHalfMatch_j5_eq (K k : Nat) (x0 : ByteArray) (x1 : ByteArray) (x5 : List (ByteArray)) (x6 : Bool) : FnHalfMatch_j5 K (k + 1) x0 x1 x5 x6 =
  Option.bind (RuneCountInString K x0) fun r0 =>
  Option.bind (RuneCountInString K x1) fun r1 =>
  chk (leI (0 : Int) (0 : Int)) (chk (ltI (0 : Int) ((List.length x5) : Int)) (chk (leI (0 : Int) (4 : Int)) (chk (ltI (4 : Int) ((List.length x5) : Int)) (chk (nleI ((ByteArray.size (nth (.str) x5 (0 : Int))) + (ByteArray.size (nth (.str) x5 (4 : Int)))) 9223372036854775807) (chk (leI (0 : Int) (1 : Int)) (chk (ltI (1 : Int) ((List.length x5) : Int)) (chk (nleI ((ByteArray.size (ByteArray.append (nth (.str) x5 (0 : Int)) (nth (.str) x5 (4 : Int)))) + (ByteArray.size (nth (.str) x5 (1 : Int)))) 9223372036854775807) (br (eqS (ByteArray.append (ByteArray.append (nth (.str) x5 (0 : Int)) (nth (.str) x5 (4 : Int))) (nth (.str) x5 (1 : Int))) x0)
  (chk (leI (0 : Int) (2 : Int)) (chk (ltI (2 : Int) ((List.length x5) : Int)) (chk (leI (0 : Int) (4 : Int)) (chk (ltI (4 : Int) ((List.length x5) : Int)) (chk (nleI ((ByteArray.size (nth (.str) x5 (2 : Int))) + (ByteArray.size (nth (.str) x5 (4 : Int)))) 9223372036854775807) (chk (leI (0 : Int) (3 : Int)) (chk (ltI (3 : Int) ((List.length x5) : Int)) (chk (nleI ((ByteArray.size (ByteArray.append (nth (.str) x5 (2 : Int)) (nth (.str) x5 (4 : Int)))) + (ByteArray.size (nth (.str) x5 (3 : Int)))) 9223372036854775807) (br (eqS (ByteArray.append (ByteArray.append (nth (.str) x5 (2 : Int)) (nth (.str) x5 (4 : Int))) (nth (.str) x5 (3 : Int))) x1)
   (chk (leI (0 : Int) (4 : Int)) (chk (ltI (4 : Int) ((List.length x5) : Int)) (Option.bind (RuneCountInString K (nth (.str) x5 (4 : Int))) fun r2 =>
    br (leI (cond (ltI r0 r1) r1 r0) (IntKind.wrap IntKind.i64 ((2 : Int) * r2)))
    (some x6)
    (some Bool.false))))
   (some Bool.false))))))))))
  (some Bool.false))))))))) := by kernel_rfl
theorem FnHalfNone_eq (K : Nat) (x0 : ByteArray) (x1 : ByteArray) : FnHalfNone (K + 1) x0 x1 =
  br (ltI (2147483647 : Int) ((ByteArray.size x0) : Int))
  (FnHalfNone_j0 K K x0 x1 Bool.true)
  (FnHalfNone_j0 K K x0 x1 (ltI (2147483647 : Int) ((ByteArray.size x1) : Int))) := by kernel_rfl
theorem FnHalfNone_j0_eq (K k : Nat) (x0 : ByteArray) (x1 : ByteArray) (x16 : Bool) : FnHalfNone_j0 K (k + 1) x0 x1 x16 =
  br x16
  (some Bool.true)
  (FnHalfNone_j1 K k x0 x1) := by kernel_rfl
theorem FnHalfNone_j1_eq (K k : Nat) (x0 : ByteArray) (x1 : ByteArray) : FnHalfNone_j1 K (k + 1) x0 x1 =
  Option.bind (IsDiffText K x0 (120 : Int)) fun r0 =>
  br (Bool.not r0)
  (FnHalfNone_j2 K k x0 x1 Bool.true)
  (Option.bind (IsDiffText K x1 (120 : Int)) fun r1 =>
   FnHalfNone_j2 K k x0 x1 (Bool.not r1)) := by kernel_rfl
theorem FnHalfNone_j2_eq (K k : Nat) (x0 : ByteArray) (x1 : ByteArray) (x24 : Bool) : FnHalfNone_j2 K (k + 1) x0 x1 x24 =
  br x24
  (some Bool.true)
  (FnHalfNone_j3 K k x0 x1) := by kernel_rfl
theorem FnHalfNone_j3_eq (K k : Nat) (x0 : ByteArray) (x1 : ByteArray) : FnHalfNone_j3 K (k + 1) x0 x1 =
  Option.bind (RuneCountInString K x0) fun r0 =>
  Option.bind (RuneCountInString K x1) fun r1 =>
  br (leI (4 : Int) (cond (ltI r0 r1) r1 r0))
  (FnHalfNone_j4 K k x0 x1 (leI (cond (ltI r0 r1) r1 r0) (IntKind.wrap IntKind.i64 ((2 : Int) * (cond (ltI r1 r0) r1 r0)))))
  (FnHalfNone_j4 K k x0 x1 Bool.false) := by kernel_rfl
theorem FnHalfNone_j4_eq (K k : Nat) (x0 : ByteArray) (x1 : ByteArray) (x42 : Bool) : FnHalfNone_j4 K (k + 1) x0 x1 x42 =
  br x42
  (some Bool.true)
  (FnHalfNone_j5 K k x0 x1) := by kernel_rfl
theorem FnHalfNone_j5_eq (K k : Nat) (x0 : ByteArray) (x1 : ByteArray) : FnHalfNone_j5 K (k + 1) x0 x1 =
  Option.bind (HalfMatch K x0 x1) fun r0 =>
  br (eqI ((List.length r0) : Int) (0 : Int))
  (Option.bind (HalfMatch K (ByteArray.mk (List.toArray ((49 : UInt8) :: ((50 : UInt8) :: ((51 : UInt8) :: ((52 : UInt8) :: ((53 : UInt8) :: ((54 : UInt8) :: ((55 : UInt8) :: ((56 : UInt8) :: ((57 : UInt8) :: ((48 : UInt8) :: [])))))))))))) (ByteArray.mk (List.toArray ((97 : UInt8) :: ((51 : UInt8) :: ((52 : UInt8) :: ((53 : UInt8) :: ((54 : UInt8) :: ((55 : UInt8) :: ((56 : UInt8) :: ((122 : UInt8) :: []))))))))))) fun r1 =>
   some (eqI ((List.length r1) : Int) (5 : Int)))
  (some Bool.false) := by kernel_rfl
theorem FnEfficiencyKeeps_eq (K : Nat) (x0 : List TS2.den) (x1 : Int) : FnEfficiencyKeeps (K + 1) x0 x1 =
  Option.bind (zzFits3 K x0) fun r0 =>
  br (Bool.not r0)
  (some Bool.true)
  (FnEfficiencyKeeps_j0 K K x0 x1) := by kernel_rfl
theorem FnEfficiencyKeeps_j0_eq (K k : Nat) (x0 : List (TS2.den)) (x1 : Int) : FnEfficiencyKeeps_j0 K (k + 1) x0 x1 =
  Option.bind (cleanASCII K x0) fun r0 =>
  br (Bool.not r0)
  (FnEfficiencyKeeps_j1 K k x0 x1 Bool.true)
  (br (ltI x1 (-(1000 : Int)))
   (FnEfficiencyKeeps_j1 K k x0 x1 Bool.true)
   (FnEfficiencyKeeps_j1 K k x0 x1 (ltI (1000 : Int) x1))) := by kernel_rfl
theorem FnEfficiencyKeeps_j1_eq (K k : Nat) (x0 : List (TS2.den)) (x1 : Int) (x18 : Bool) : FnEfficiencyKeeps_j1 K (k + 1) x0 x1 x18 =
  br x18
  (Option.bind (cleanAwake K) fun r0 =>
   some r0)
  (FnEfficiencyKeeps_j2 K k x0 x1) := by kernel_rfl
theorem FnEfficiencyKeeps_j2_eq (K k : Nat) (x0 : List (TS2.den)) (x1 : Int) : FnEfficiencyKeeps_j2 K (k + 1) x0 x1 =
  Option.bind (cleanAwake K) fun r0 =>
  br r0
  (Option.bind (cleanOf K x0) fun r1 =>
   Option.bind (cleanOwn K x0) fun r2 =>
   Option.bind (CleanEfficiency K r2 x1) fun r3 =>
   Option.bind (cleanOf K r3) fun r4 =>
   Option.bind (CleanKept K r1 r4) fun r5 =>
   some r5)
  (some Bool.false) := by kernel_rfl
theorem FnEfficiencyFewer_eq (K : Nat) (x0 : List TS2.den) (x1 : Int) : FnEfficiencyFewer (K + 1) x0 x1 =
  Option.bind (zzFits3 K x0) fun r0 =>
  br (Bool.not r0)
  (some Bool.true)
  (FnEfficiencyFewer_j0 K K x0 x1) := by kernel_rfl
theorem FnEfficiencyFewer_j0_eq (K k : Nat) (x0 : List (TS2.den)) (x1 : Int) : FnEfficiencyFewer_j0 K (k + 1) x0 x1 =
  Option.bind (cleanASCII K x0) fun r0 =>
  br (Bool.not r0)
  (FnEfficiencyFewer_j1 K k x0 x1 Bool.true)
  (br (ltI x1 (-(1000 : Int)))
   (FnEfficiencyFewer_j1 K k x0 x1 Bool.true)
   (FnEfficiencyFewer_j1 K k x0 x1 (ltI (1000 : Int) x1))) := by kernel_rfl
theorem FnEfficiencyFewer_j1_eq (K k : Nat) (x0 : List (TS2.den)) (x1 : Int) (x24 : Bool) : FnEfficiencyFewer_j1 K (k + 1) x0 x1 x24 =
  br x24
  (Option.bind (cleanAwake K) fun r0 =>
   some r0)
  (FnEfficiencyFewer_j2 K k x0 x1) := by kernel_rfl
theorem FnEfficiencyFewer_j2_eq (K k : Nat) (x0 : List (TS2.den)) (x1 : Int) : FnEfficiencyFewer_j2 K (k + 1) x0 x1 =
  Option.bind (cleanOwn K x0) fun r0 =>
  Option.bind (CleanMerge K r0) fun r1 =>
  Option.bind (cleanOwn K r1) fun r2 =>
  Option.bind (CleanEfficiency K r2 x1) fun r3 =>
  br (leI x1 (0 : Int))
  (Option.bind (cleanAwake K) fun r4 =>
   br r4
   (Option.bind (cleanOf K r1) fun r5 =>
    Option.bind (cleanOf K r3) fun r6 =>
    Option.bind (CleanSame K r5 r6) fun r7 =>
    some r7)
   (some Bool.false))
  (FnEfficiencyFewer_j3 K k r1 r3) := by kernel_rfl
theorem FnEfficiencyFewer_j3_eq (K k : Nat) (x5 : List (TS2.den)) (x6 : List (TS2.den)) : FnEfficiencyFewer_j3 K (k + 1) x5 x6 =
  Option.bind (cleanOf K x5) fun r0 =>
  Option.bind (CleanEdits K r0) fun r1 =>
  Option.bind (cleanOf K x6) fun r2 =>
  Option.bind (CleanEdits K r2) fun r3 =>
  Option.bind (cleanAwake K) fun r4 =>
  br r4
  (some (leI (r3).1 (r1).1))
  (some Bool.false) := by kernel_rfl
theorem IsDiffText_eq (K : Nat) (x0 : ByteArray) (x1 : Int) : IsDiffText (K + 1) x0 x1 =
  br (leI ((ByteArray.size x0) : Int) (IntKind.wrap IntKind.i64 ((4 : Int) * x1)))
  (Option.bind (ValidString K x0) fun r0 =>
   br r0
   (Option.bind (RuneCountInString K x0) fun r1 =>
    some (leI r1 x1))
   (some Bool.false))
  (some Bool.false) := by kernel_rfl
theorem HalfMatch_eq (K : Nat) (x0 : ByteArray) (x1 : ByteArray) : HalfMatch (K + 1) x0 x1 =
  Option.bind (fast K) fun r0 =>
  Option.bind (DiffHalfMatch K r0 x0 x1) fun r1 =>
  chk (ltI ((List.length r1) : Int) (1000000000000 : Int)) (some r1) := by kernel_rfl
theorem zzFits3_eq (K : Nat) (x0 : List TS2.den) : zzFits3 (K + 1) x0 =
  br (ltI (2147483647 : Int) ((List.length x0) : Int))
  (some Bool.false)
  (zzFits3_j0 K K x0) := by kernel_rfl
theorem zzFits3_j0_eq (K k : Nat) (x0 : List (TS2.den)) : zzFits3_j0 K (k + 1) x0 =
  zzFits3_l0 K k x0 ((List.length x0) : Int) (0 : Int) := by kernel_rfl
theorem zzFits3_l0_eq (K k : Nat) (x8 : List (TS2.den)) (x9 : Int) (x10 : Int) : zzFits3_l0 K (k + 1) x8 x9 x10 =
  br (ltI x10 x9)
  (zzFits3_j1 K k x8 x9 x10)
  (some Bool.true) := by kernel_rfl
theorem zzFits3_j1_eq (K k : Nat) (x8 : List (TS2.den)) (x9 : Int) (x10 : Int) : zzFits3_j1 K (k + 1) x8 x9 x10 =
  chk (leI (0 : Int) x10) (chk (ltI x10 ((List.length x8) : Int)) (Option.bind (zzFits4 K (nth TS2 x8 x10)) fun r0 =>
  br (Bool.not r0)
  (some Bool.false)
  (zzFits3_l0 K k x8 x9 (IntKind.wrap IntKind.i64 (x10 + (1 : Int)))))) := by kernel_rfl
theorem cleanASCII_eq (K : Nat) (x0 : List TS2.den) : cleanASCII (K + 1) x0 =
  br (leI ((List.length x0) : Int) (12 : Int))
  (Option.bind (cleanOf K x0) fun r0 =>
   Option.bind (CleanRight K r0 (12 : Int) (40 : Int) Bool.true) fun r1 =>
   some r1)
  (some Bool.false) := by kernel_rfl
theorem cleanAwake_eq (K : Nat) : cleanAwake (K + 1) =
  Option.bind (CleanLossless K (((0 : Int), (ByteArray.mk (List.toArray ((84 : UInt8) :: ((104 : UInt8) :: ((101 : UInt8) :: ((32 : UInt8) :: ((99 : UInt8) :: [])))))))) :: (((1 : Int), (ByteArray.mk (List.toArray ((97 : UInt8) :: ((116 : UInt8) :: ((32 : UInt8) :: ((99 : UInt8) :: []))))))) :: (((0 : Int), (ByteArray.mk (List.toArray ((97 : UInt8) :: ((109 : UInt8) :: ((101 : UInt8) :: ((46 : UInt8) :: []))))))) :: [])))) fun r0 =>
  br (eqI ((List.length r0) : Int) (3 : Int))
  (chk (leI (0 : Int) (0 : Int)) (chk (ltI (0 : Int) ((List.length r0) : Int)) (br (eqS ((nth TS2 r0 (0 : Int))).2 (ByteArray.mk (List.toArray ((84 : UInt8) :: ((104 : UInt8) :: ((101 : UInt8) :: ((32 : UInt8) :: [])))))))
   (chk (leI (0 : Int) (1 : Int)) (chk (ltI (1 : Int) ((List.length r0) : Int)) (br (Bool.and (eqI ((nth TS2 r0 (1 : Int))).1 (1 : Int)) (eqS ((nth TS2 r0 (1 : Int))).2 (ByteArray.mk (List.toArray ((99 : UInt8) :: ((97 : UInt8) :: ((116 : UInt8) :: ((32 : UInt8) :: []))))))))
    (chk (leI (0 : Int) (2 : Int)) (chk (ltI (2 : Int) ((List.length r0) : Int)) (some (eqS ((nth TS2 r0 (2 : Int))).2 (ByteArray.mk (List.toArray ((99 : UInt8) :: ((97 : UInt8) :: ((109 : UInt8) :: ((101 : UInt8) :: ((46 : UInt8) :: [])))))))))))
    (some Bool.false))))
   (some Bool.false))))
  (some Bool.false) := by kernel_rfl
theorem CleanKept_eq (K : Nat) (x0 : List TS2.den) (x1 : List TS2.den) : CleanKept (K + 1) x0 x1 =
  Option.bind (CleanSide K x0 (1 : Int)) fun r0 =>
  Option.bind (CleanSide K x1 (1 : Int)) fun r1 =>
  br (eqS r0 r1)
  (Option.bind (CleanSide K x0 (-(1 : Int))) fun r2 =>
   Option.bind (CleanSide K x1 (-(1 : Int))) fun r3 =>
   some (eqS r2 r3))
  (some Bool.false) := by kernel_rfl
theorem cleanOf_eq (K : Nat) (x0 : List TS2.den) : cleanOf (K + 1) x0 =
  cleanOf_l0 K K [] x0 ((List.length x0) : Int) (0 : Int) := by kernel_rfl
theorem cleanOf_l0_eq (K k : Nat) (x3 : List (TS2.den)) (x6 : List (TS2.den)) (x7 : Int) (x8 : Int) : cleanOf_l0 K (k + 1) x3 x6 x7 x8 =
  br (ltI x8 x7)
  (cleanOf_j0 K k x3 x6 x7 x8)
  (some x3) := by kernel_rfl
theorem cleanOf_j0_eq (K k : Nat) (x3 : List (TS2.den)) (x6 : List (TS2.den)) (x7 : Int) (x8 : Int) : cleanOf_j0 K (k + 1) x3 x6 x7 x8 =
  chk (leI (0 : Int) x8) (chk (ltI x8 ((List.length x6) : Int)) (chk (ltI (((List.length x3) : Int) + ((List.length ((nth TS2 x6 x8) :: [])) : Int)) (1000000000000 : Int)) (cleanOf_l0 K k (x3 ++ ((nth TS2 x6 x8) :: [])) x6 x7 (IntKind.wrap IntKind.i64 (x8 + (1 : Int)))))) := by kernel_rfl
theorem CleanEfficiency_eq (K : Nat) (x0 : List TS2.den) (x1 : Int) : CleanEfficiency (K + 1) x0 x1 =
  Option.bind (plain K) fun r0 =>
  Option.bind (diffs K x0) fun r1 =>
  Option.bind (DiffCleanupEfficiency K ((r0).1, (x1, ((r0).2).2)) r1) fun r2 =>
  Option.bind (back K r2) fun r3 =>
  some r3 := by kernel_rfl
theorem cleanOwn_eq (K : Nat) (x0 : List TS2.den) : cleanOwn (K + 1) x0 =
  chk (ltI ((List.length x0) : Int) (1000000000000 : Int)) (some x0) := by kernel_rfl
theorem CleanMerge_eq (K : Nat) (x0 : List TS2.den) : CleanMerge (K + 1) x0 =
  Option.bind (plain K) fun r0 =>
  Option.bind (diffs K x0) fun r1 =>
  Option.bind (DiffCleanupMerge K r0 r1) fun r2 =>
  Option.bind (back K r2) fun r3 =>
  some r3 := by kernel_rfl
theorem CleanSame_eq (K : Nat) (x0 : List TS2.den) (x1 : List TS2.den) : CleanSame (K + 1) x0 x1 =
  br (Bool.not (eqI ((List.length x0) : Int) ((List.length x1) : Int)))
  (some Bool.false)
  (CleanSame_j0 K K x0 x1) := by kernel_rfl
theorem CleanSame_j0_eq (K k : Nat) (x0 : List (TS2.den)) (x1 : List (TS2.den)) : CleanSame_j0 K (k + 1) x0 x1 =
  CleanSame_l0 K k x0 x1 ((List.length x0) : Int) (0 : Int) := by kernel_rfl
theorem CleanSame_l0_eq (K k : Nat) (x0 : List (TS2.den)) (x1 : List (TS2.den)) (x12 : Int) (x13 : Int) : CleanSame_l0 K (k + 1) x0 x1 x12 x13 =
  br (ltI x13 x12)
  (CleanSame_j1 K k x0 x1 x12 x13)
  (some Bool.true) := by kernel_rfl
theorem CleanSame_j1_eq (K k : Nat) (x0 : List (TS2.den)) (x1 : List (TS2.den)) (x12 : Int) (x13 : Int) : CleanSame_j1 K (k + 1) x0 x1 x12 x13 =
  chk (leI (0 : Int) x13) (chk (ltI x13 ((List.length x0) : Int)) (chk (leI (0 : Int) x13) (chk (ltI x13 ((List.length x1) : Int)) (br (Bool.not (Bool.and (eqI ((nth TS2 x0 x13)).1 ((nth TS2 x1 x13)).1) (eqS ((nth TS2 x0 x13)).2 ((nth TS2 x1 x13)).2)))
  (some Bool.false)
  (CleanSame_l0 K k x0 x1 x12 (IntKind.wrap IntKind.i64 (x13 + (1 : Int)))))))) := by kernel_rfl
theorem CleanEdits_eq (K : Nat) (x0 : List TS2.den) : CleanEdits (K + 1) x0 =
  CleanEdits_l0 K K (0 : Int) (0 : Int) x0 ((List.length x0) : Int) (0 : Int) := by kernel_rfl
theorem CleanEdits_l0_eq (K k : Nat) (x4 : Int) (x5 : Int) (x8 : List (TS2.den)) (x9 : Int) (x10 : Int) : CleanEdits_l0 K (k + 1) x4 x5 x8 x9 x10 =
  br (ltI x10 x9)
  (CleanEdits_j0 K k x4 x5 x8 x9 x10)
  (some (x4, x5)) := by kernel_rfl
theorem CleanEdits_j0_eq (K k : Nat) (x4 : Int) (x5 : Int) (x8 : List (TS2.den)) (x9 : Int) (x10 : Int) : CleanEdits_j0 K (k + 1) x4 x5 x8 x9 x10 =
  chk (leI (0 : Int) x10) (chk (ltI x10 ((List.length x8) : Int)) (br (Bool.not (eqI ((nth TS2 x8 x10)).1 (0 : Int)))
  (chk (nleI (List.length (runesI ((nth TS2 x8 x10)).2)) 70368744177664) (CleanEdits_l0 K k (IntKind.wrap IntKind.i64 (x4 + (1 : Int))) (IntKind.wrap IntKind.i64 (x5 + ((List.length (runesI ((nth TS2 x8 x10)).2)) : Int))) x8 x9 (IntKind.wrap IntKind.i64 (x10 + (1 : Int)))))
  (CleanEdits_l0 K k x4 x5 x8 x9 (IntKind.wrap IntKind.i64 (x10 + (1 : Int)))))) := by kernel_rfl
theorem fast_eq (K : Nat) : fast (K + 1) =
  Option.bind (New K) fun r0 =>
  some r0 := by kernel_rfl
theorem DiffHalfMatch_eq (K : Nat) (x0 : TS0.den) (x1 : ByteArray) (x2 : ByteArray) : DiffHalfMatch (K + 1) x0 x1 x2 =
  chk (nleI (List.length (runesI x1)) 70368744177664) (chk (nleI (List.length (runesI x2)) 70368744177664) (Option.bind (diffHalfMatch K (Hp.new (Hp.new Hp.empty (21 : TypeId) (.p (.int (.i32))) (runesI x1)) (21 : TypeId) (.p (.int (.i32))) (runesI x2)) x0 (Rf.at 0 0 (List.length (runesI x1))) (Rf.at (Nat.succ 0) 0 (List.length (runesI x2)))) fun r0 =>
  chk (rsure (r0).2) (br (rnil (r0).2)
  (some [])
  (DiffHalfMatch_j0 K K (r0).2 (r0).1)))) := by kernel_rfl
theorem DiffHalfMatch_j0_eq (K k : Nat) (x7 : Rf) (h : Hp) : DiffHalfMatch_j0 K (k + 1) x7 h =
  chk (leI (0 : Int) ((rlen x7) : Int)) (chk (leI ((rlen x7) : Int) ((rlen x7) : Int)) (chk (ltI ((rlen x7) : Int) (1000000000000 : Int)) (DiffHalfMatch_l0 K k (List.replicate (Int.toNat ((rlen x7) : Int)) (ByteArray.mk (List.toArray []))) x7 ((rlen x7) : Int) (0 : Int) h))) := by kernel_rfl
theorem DiffHalfMatch_l0_eq (K k : Nat) (x8 : List (ByteArray)) (x22 : Rf) (x23 : Int) (x24 : Int) (h : Hp) : DiffHalfMatch_l0 K (k + 1) x8 x22 x23 x24 h =
  br (ltI x24 x23)
  (DiffHalfMatch_j1 K k x8 x22 x23 x24 h)
  (some x8) := by kernel_rfl
theorem DiffHalfMatch_j1_eq (K k : Nat) (x8 : List (ByteArray)) (x22 : Rf) (x23 : Int) (x24 : Int) (h : Hp) : DiffHalfMatch_j1 K (k + 1) x8 x22 x23 x24 h =
  chk (leI (0 : Int) x24) (chk (ltI x24 ((rlen x22) : Int)) (Option.bind ((Hp.ld h (.sr) (radr 1 (Int.toNat x24) x22))) fun r0 =>
  Option.bind ((Hp.rd h (.int (.i32)) r0)) fun r1 =>
  chk (leI (0 : Int) x24) (chk (ltI x24 ((List.length x8) : Int)) (DiffHalfMatch_l0 K k (List.set x8 (Int.toNat x24) (strOfRunes r1)) x22 x23 (IntKind.wrap IntKind.i64 (x24 + (1 : Int))) h)))) := by kernel_rfl
theorem zzFits4_eq (K : Nat) (x0 : TS2.den) : zzFits4 (K + 1) x0 =
  br (ltI (2147483647 : Int) ((ByteArray.size (x0).2) : Int))
  (some Bool.false)
  (some Bool.true) := by kernel_rfl
theorem CleanRight_eq (K : Nat) (x0 : List TS2.den) (x1 : Int) (x2 : Int) (x3 : Bool) : CleanRight (K + 1) x0 x1 x2 x3 =
  br (ltI x1 ((List.length x0) : Int))
  (some Bool.false)
  (CleanRight_j0 K K x0 x2 x3) := by kernel_rfl
theorem CleanRight_j0_eq (K k : Nat) (x0 : List (TS2.den)) (x2 : Int) (x3 : Bool) : CleanRight_j0 K (k + 1) x0 x2 x3 =
  CleanRight_l0 K k x2 x3 x0 ((List.length x0) : Int) (0 : Int) := by kernel_rfl
theorem CleanRight_l0_eq (K k : Nat) (x2 : Int) (x3 : Bool) (x16 : List (TS2.den)) (x17 : Int) (x18 : Int) : CleanRight_l0 K (k + 1) x2 x3 x16 x17 x18 =
  br (ltI x18 x17)
  (CleanRight_j1 K k x2 x3 x16 x17 x18)
  (some Bool.true) := by kernel_rfl
theorem CleanRight_j1_eq (K k : Nat) (x2 : Int) (x3 : Bool) (x16 : List (TS2.den)) (x17 : Int) (x18 : Int) : CleanRight_j1 K (k + 1) x2 x3 x16 x17 x18 =
  chk (leI (0 : Int) x18) (chk (ltI x18 ((List.length x16) : Int)) (br (ltI ((nth TS2 x16 x18)).1 (-(1 : Int)))
  (CleanRight_j2 K k x2 x3 (0 : Int) ((nth TS2 x16 x18) :: []) x16 x17 x18 Bool.true)
  (br (ltI (1 : Int) ((nth TS2 x16 x18)).1)
   (CleanRight_j2 K k x2 x3 (0 : Int) ((nth TS2 x16 x18) :: []) x16 x17 x18 Bool.true)
   (br (eqS ((nth TS2 x16 x18)).2 (ByteArray.mk (List.toArray [])))
    (CleanRight_j2 K k x2 x3 (0 : Int) ((nth TS2 x16 x18) :: []) x16 x17 x18 Bool.true)
    (Option.bind (CleanChars K ((nth TS2 x16 x18)).2 x2) fun r0 =>
     CleanRight_j2 K k x2 x3 (0 : Int) ((nth TS2 x16 x18) :: []) x16 x17 x18 (Bool.not r0)))))) := by kernel_rfl
theorem CleanRight_j2_eq (K k : Nat) (x2 : Int) (x3 : Bool) (i10 : Int) (x10 : List (TS2.den)) (x16 : List (TS2.den)) (x17 : Int) (x18 : Int) (x41 : Bool) : CleanRight_j2 K (k + 1) x2 x3 i10 x10 x16 x17 x18 x41 =
  br x41
  (some Bool.false)
  (CleanRight_j3 K k x2 x3 i10 x10 x16 x17 x18) := by kernel_rfl
theorem CleanRight_j3_eq (K k : Nat) (x2 : Int) (x3 : Bool) (i10 : Int) (x10 : List (TS2.den)) (x16 : List (TS2.den)) (x17 : Int) (x18 : Int) : CleanRight_j3 K (k + 1) x2 x3 i10 x10 x16 x17 x18 =
  CleanRight_l1 K k x2 x3 i10 x10 (0 : Int) x16 x17 x18 := by kernel_rfl
theorem CleanRight_l1_eq (K k : Nat) (x2 : Int) (x3 : Bool) (i10 : Int) (x10 : List (TS2.den)) (x11 : Int) (x16 : List (TS2.den)) (x17 : Int) (x18 : Int) : CleanRight_l1 K (k + 1) x2 x3 i10 x10 x11 x16 x17 x18 =
  br (ltI x11 ((ByteArray.size ((nth TS2 x10 i10)).2) : Int))
  (br x3
   (CleanRight_j4 K k x2 x3 i10 x10 x11 x16 x17 x18)
   (CleanRight_l0 K k x2 x3 x16 x17 (IntKind.wrap IntKind.i64 (x18 + (1 : Int)))))
  (CleanRight_l0 K k x2 x3 x16 x17 (IntKind.wrap IntKind.i64 (x18 + (1 : Int)))) := by kernel_rfl
theorem CleanRight_j4_eq (K k : Nat) (x2 : Int) (x3 : Bool) (i10 : Int) (x10 : List (TS2.den)) (x11 : Int) (x16 : List (TS2.den)) (x17 : Int) (x18 : Int) : CleanRight_j4 K (k + 1) x2 x3 i10 x10 x11 x16 x17 x18 =
  chk (leI (0 : Int) x11) (chk (ltI x11 ((ByteArray.size ((nth TS2 x10 i10)).2) : Int)) (br (ltI (126 : Int) (bt ((nth TS2 x10 i10)).2 x11))
  (some Bool.false)
  (CleanRight_l1 K k x2 x3 i10 x10 (IntKind.wrap IntKind.i64 (x11 + (1 : Int))) x16 x17 x18))) := by kernel_rfl
theorem CleanLossless_eq (K : Nat) (x0 : List TS2.den) : CleanLossless (K + 1) x0 =
  Option.bind (plain K) fun r0 =>
  Option.bind (diffs K x0) fun r1 =>
  Option.bind (DiffCleanupSemanticLossless K r0 r1) fun r2 =>
  Option.bind (back K r2) fun r3 =>
  some r3 := by kernel_rfl
theorem CleanSide_eq (K : Nat) (x0 : List TS2.den) (x1 : Int) : CleanSide (K + 1) x0 x1 =
  CleanSide_l0 K K x1 (ByteArray.mk (List.toArray [])) x0 ((List.length x0) : Int) (0 : Int) := by kernel_rfl
theorem CleanSide_l0_eq (K k : Nat) (x1 : Int) (x5 : ByteArray) (x8 : List (TS2.den)) (x9 : Int) (x10 : Int) : CleanSide_l0 K (k + 1) x1 x5 x8 x9 x10 =
  br (ltI x10 x9)
  (CleanSide_j0 K k x1 x5 x8 x9 x10)
  (some x5) := by kernel_rfl
theorem CleanSide_j0_eq (K k : Nat) (x1 : Int) (x5 : ByteArray) (x8 : List (TS2.den)) (x9 : Int) (x10 : Int) : CleanSide_j0 K (k + 1) x1 x5 x8 x9 x10 =
  chk (leI (0 : Int) x10) (chk (ltI x10 ((List.length x8) : Int)) (br (Bool.not (eqI ((nth TS2 x8 x10)).1 x1))
  (chk (nleI ((ByteArray.size x5) + (ByteArray.size ((nth TS2 x8 x10)).2)) 9223372036854775807) (CleanSide_l0 K k x1 (ByteArray.append x5 ((nth TS2 x8 x10)).2) x8 x9 (IntKind.wrap IntKind.i64 (x10 + (1 : Int)))))
  (CleanSide_l0 K k x1 x5 x8 x9 (IntKind.wrap IntKind.i64 (x10 + (1 : Int)))))) := by kernel_rfl
theorem plain_eq (K : Nat) : plain (K + 1) =
  Option.bind (New K) fun r0 =>
  some ((0 : Int), (r0).2) := by kernel_rfl
theorem back_eq (K : Nat) (x0 : List TS1.den) : back (K + 1) x0 =
  back_l0 K K [] x0 ((List.length x0) : Int) (0 : Int) := by kernel_rfl
theorem back_l0_eq (K k : Nat) (x3 : List (TS2.den)) (x6 : List (TS1.den)) (x7 : Int) (x8 : Int) : back_l0 K (k + 1) x3 x6 x7 x8 =
  br (ltI x8 x7)
  (back_j0 K k x3 x6 x7 x8)
  (some x3) := by kernel_rfl
theorem back_j0_eq (K k : Nat) (x3 : List (TS2.den)) (x6 : List (TS1.den)) (x7 : Int) (x8 : Int) : back_j0 K (k + 1) x3 x6 x7 x8 =
  chk (leI (0 : Int) x8) (chk (ltI x8 ((List.length x6) : Int)) (chk (ltI (((List.length x3) : Int) + ((List.length (((IntKind.wrap IntKind.i64 ((nth TS1 x6 x8)).1), ((nth TS1 x6 x8)).2) :: [])) : Int)) (1000000000000 : Int)) (back_l0 K k (x3 ++ (((IntKind.wrap IntKind.i64 ((nth TS1 x6 x8)).1), ((nth TS1 x6 x8)).2) :: [])) x6 x7 (IntKind.wrap IntKind.i64 (x8 + (1 : Int)))))) := by kernel_rfl
theorem DiffCleanupEfficiency_eq (K : Nat) (x0 : TS0.den) (x1 : List TS1.den) : DiffCleanupEfficiency (K + 1) x0 x1 =
  DiffCleanupEfficiency_l0 K K (0 : Int) (x0 :: []) x1 Bool.false Pf.nil (ByteArray.mk (List.toArray [])) (0 : Int) Bool.false Bool.false Bool.false Bool.false Hp.empty := by kernel_rfl
theorem DiffCleanupEfficiency_l0_eq (K k : Nat) (i0 : Int) (x0 : List (TS0.den)) (x1 : List (TS1.den)) (x5 : Bool) (x6 : Pf) (x7 : ByteArray) (x8 : Int) (x9 : Bool) (x10 : Bool) (x11 : Bool) (x12 : Bool) (h : Hp) : DiffCleanupEfficiency_l0 K (k + 1) i0 x0 x1 x5 x6 x7 x8 x9 x10 x11 x12 h =
  br (ltI x8 ((List.length x1) : Int))
  (DiffCleanupEfficiency_j0 K k i0 x0 x1 x5 x6 x7 x8 x9 x10 x11 x12 h)
  (DiffCleanupEfficiency_j1 K k i0 x0 x1 x5 h) := by kernel_rfl
theorem DiffCleanupEfficiency_j0_eq (K k : Nat) (i0 : Int) (x0 : List (TS0.den)) (x1 : List (TS1.den)) (x5 : Bool) (x6 : Pf) (x7 : ByteArray) (x8 : Int) (x9 : Bool) (x10 : Bool) (x11 : Bool) (x12 : Bool) (h : Hp) : DiffCleanupEfficiency_j0 K (k + 1) i0 x0 x1 x5 x6 x7 x8 x9 x10 x11 x12 h =
  chk (leI (0 : Int) x8) (chk (ltI x8 ((List.length x1) : Int)) (br (eqI ((nth TS1 x1 x8)).1 (0 : Int))
  (chk (leI (0 : Int) x8) (chk (ltI x8 ((List.length x1) : Int)) (br (ltI ((ByteArray.size ((nth TS1 x1 x8)).2) : Int) (((nth TS0 x0 i0)).2).1)
   (br x11
    (DiffCleanupEfficiency_j2 K k i0 x0 x1 x5 x6 x8 x9 x10 x11 x12 Bool.true h)
    (DiffCleanupEfficiency_j2 K k i0 x0 x1 x5 x6 x8 x9 x10 x11 x12 x12 h))
   (DiffCleanupEfficiency_j2 K k i0 x0 x1 x5 x6 x8 x9 x10 x11 x12 Bool.false h))))
  (chk (leI (0 : Int) x8) (chk (ltI x8 ((List.length x1) : Int)) (br (eqI ((nth TS1 x1 x8)).1 (-(1 : Int)))
   (DiffCleanupEfficiency_j3 K k i0 x0 x1 x5 x6 x7 x8 x9 x10 x11 Bool.true h)
   (DiffCleanupEfficiency_j3 K k i0 x0 x1 x5 x6 x7 x8 x9 x10 Bool.true x12 h)))))) := by kernel_rfl
theorem DiffCleanupEfficiency_j1_eq (K k : Nat) (i0 : Int) (x0 : List (TS0.den)) (x1 : List (TS1.den)) (x5 : Bool) (h : Hp) : DiffCleanupEfficiency_j1 K (k + 1) i0 x0 x1 x5 h =
  br x5
  (Option.bind (DiffCleanupMerge K (nth TS0 x0 i0) x1) fun r0 =>
   some r0)
  (some x1) := by kernel_rfl
theorem DiffCleanupEfficiency_j2_eq (K k : Nat) (i0 : Int) (x0 : List (TS0.den)) (x1 : List (TS1.den)) (x5 : Bool) (x6 : Pf) (x8 : Int) (x9 : Bool) (x10 : Bool) (x11 : Bool) (x12 : Bool) (x41 : Bool) (h : Hp) : DiffCleanupEfficiency_j2 K (k + 1) i0 x0 x1 x5 x6 x8 x9 x10 x11 x12 x41 h =
  br x41
  (chk (leI (0 : Int) x8) (chk (ltI x8 ((List.length x1) : Int)) (DiffCleanupEfficiency_l0 K k i0 x0 x1 x5 (Pf.at (h).1 0) ((nth TS1 x1 x8)).2 (IntKind.wrap IntKind.i64 (x8 + (1 : Int))) x11 x12 Bool.false Bool.false (Hp.box h 69 (.pair (.p (.int (.i64))) (.one (.pr))) (x8, x6)))))
  (DiffCleanupEfficiency_l0 K k i0 x0 x1 x5 Pf.nil (ByteArray.mk (List.toArray [])) (IntKind.wrap IntKind.i64 (x8 + (1 : Int))) x9 x10 Bool.false Bool.false h) := by kernel_rfl
theorem DiffCleanupEfficiency_j3_eq (K k : Nat) (i0 : Int) (x0 : List (TS0.den)) (x1 : List (TS1.den)) (x5 : Bool) (x6 : Pf) (x7 : ByteArray) (x8 : Int) (x9 : Bool) (x10 : Bool) (x11 : Bool) (x12 : Bool) (h : Hp) : DiffCleanupEfficiency_j3 K (k + 1) i0 x0 x1 x5 x6 x7 x8 x9 x10 x11 x12 h =
  br x9
  (DiffCleanupEfficiency_j4 K k i0 x0 x1 x5 x6 x7 x8 x9 x10 x11 x12 (IntKind.wrap IntKind.i64 ((0 : Int) + (1 : Int))) h)
  (DiffCleanupEfficiency_j4 K k i0 x0 x1 x5 x6 x7 x8 x9 x10 x11 x12 (0 : Int) h) := by kernel_rfl
theorem DiffCleanupEfficiency_j4_eq (K k : Nat) (i0 : Int) (x0 : List (TS0.den)) (x1 : List (TS1.den)) (x5 : Bool) (x6 : Pf) (x7 : ByteArray) (x8 : Int) (x9 : Bool) (x10 : Bool) (x11 : Bool) (x12 : Bool) (x13 : Int) (h : Hp) : DiffCleanupEfficiency_j4 K (k + 1) i0 x0 x1 x5 x6 x7 x8 x9 x10 x11 x12 x13 h =
  br x10
  (DiffCleanupEfficiency_j5 K k i0 x0 x1 x5 x6 x7 x8 x9 x10 x11 x12 (IntKind.wrap IntKind.i64 (x13 + (1 : Int))) h)
  (DiffCleanupEfficiency_j5 K k i0 x0 x1 x5 x6 x7 x8 x9 x10 x11 x12 x13 h) := by kernel_rfl
theorem DiffCleanupEfficiency_j5_eq (K k : Nat) (i0 : Int) (x0 : List (TS0.den)) (x1 : List (TS1.den)) (x5 : Bool) (x6 : Pf) (x7 : ByteArray) (x8 : Int) (x9 : Bool) (x10 : Bool) (x11 : Bool) (x12 : Bool) (x13 : Int) (h : Hp) : DiffCleanupEfficiency_j5 K (k + 1) i0 x0 x1 x5 x6 x7 x8 x9 x10 x11 x12 x13 h =
  br x11
  (DiffCleanupEfficiency_j6 K k i0 x0 x1 x5 x6 x7 x8 x9 x10 x11 x12 (IntKind.wrap IntKind.i64 (x13 + (1 : Int))) h)
  (DiffCleanupEfficiency_j6 K k i0 x0 x1 x5 x6 x7 x8 x9 x10 x11 x12 x13 h) := by kernel_rfl
theorem DiffCleanupEfficiency_j6_eq (K k : Nat) (i0 : Int) (x0 : List (TS0.den)) (x1 : List (TS1.den)) (x5 : Bool) (x6 : Pf) (x7 : ByteArray) (x8 : Int) (x9 : Bool) (x10 : Bool) (x11 : Bool) (x12 : Bool) (x13 : Int) (h : Hp) : DiffCleanupEfficiency_j6 K (k + 1) i0 x0 x1 x5 x6 x7 x8 x9 x10 x11 x12 x13 h =
  br x12
  (DiffCleanupEfficiency_j7 K k i0 x0 x1 x5 x6 x7 x8 x9 x10 x11 x12 (IntKind.wrap IntKind.i64 (x13 + (1 : Int))) h)
  (DiffCleanupEfficiency_j7 K k i0 x0 x1 x5 x6 x7 x8 x9 x10 x11 x12 x13 h) := by kernel_rfl
theorem DiffCleanupEfficiency_j7_eq (K k : Nat) (i0 : Int) (x0 : List (TS0.den)) (x1 : List (TS1.den)) (x5 : Bool) (x6 : Pf) (x7 : ByteArray) (x8 : Int) (x9 : Bool) (x10 : Bool) (x11 : Bool) (x12 : Bool) (x13 : Int) (h : Hp) : DiffCleanupEfficiency_j7 K (k + 1) i0 x0 x1 x5 x6 x7 x8 x9 x10 x11 x12 x13 h =
  br (ltI (0 : Int) ((ByteArray.size x7) : Int))
  (br x9
   (br x10
    (br x11
     (br x12
      (DiffCleanupEfficiency_j8 K k i0 x0 x1 x5 x6 x7 x8 x9 x10 x11 x12 Bool.true h)
      (chk (Bool.not (eqI (2 : Int) (0 : Int))) (br (ltI ((ByteArray.size x7) : Int) (IntKind.wrap IntKind.i64 (Int.tdiv (((nth TS0 x0 i0)).2).1 (2 : Int))))
       (DiffCleanupEfficiency_j8 K k i0 x0 x1 x5 x6 x7 x8 x9 x10 x11 x12 (eqI x13 (3 : Int)) h)
       (DiffCleanupEfficiency_j8 K k i0 x0 x1 x5 x6 x7 x8 x9 x10 x11 x12 Bool.false h))))
     (chk (Bool.not (eqI (2 : Int) (0 : Int))) (br (ltI ((ByteArray.size x7) : Int) (IntKind.wrap IntKind.i64 (Int.tdiv (((nth TS0 x0 i0)).2).1 (2 : Int))))
      (DiffCleanupEfficiency_j8 K k i0 x0 x1 x5 x6 x7 x8 x9 x10 x11 x12 (eqI x13 (3 : Int)) h)
      (DiffCleanupEfficiency_j8 K k i0 x0 x1 x5 x6 x7 x8 x9 x10 x11 x12 Bool.false h))))
    (chk (Bool.not (eqI (2 : Int) (0 : Int))) (br (ltI ((ByteArray.size x7) : Int) (IntKind.wrap IntKind.i64 (Int.tdiv (((nth TS0 x0 i0)).2).1 (2 : Int))))
     (DiffCleanupEfficiency_j8 K k i0 x0 x1 x5 x6 x7 x8 x9 x10 x11 x12 (eqI x13 (3 : Int)) h)
     (DiffCleanupEfficiency_j8 K k i0 x0 x1 x5 x6 x7 x8 x9 x10 x11 x12 Bool.false h))))
   (chk (Bool.not (eqI (2 : Int) (0 : Int))) (br (ltI ((ByteArray.size x7) : Int) (IntKind.wrap IntKind.i64 (Int.tdiv (((nth TS0 x0 i0)).2).1 (2 : Int))))
    (DiffCleanupEfficiency_j8 K k i0 x0 x1 x5 x6 x7 x8 x9 x10 x11 x12 (eqI x13 (3 : Int)) h)
    (DiffCleanupEfficiency_j8 K k i0 x0 x1 x5 x6 x7 x8 x9 x10 x11 x12 Bool.false h))))
  (DiffCleanupEfficiency_j8 K k i0 x0 x1 x5 x6 x7 x8 x9 x10 x11 x12 Bool.false h) := by kernel_rfl
theorem DiffCleanupEfficiency_j8_eq (K k : Nat) (i0 : Int) (x0 : List (TS0.den)) (x1 : List (TS1.den)) (x5 : Bool) (x6 : Pf) (x7 : ByteArray) (x8 : Int) (x9 : Bool) (x10 : Bool) (x11 : Bool) (x12 : Bool) (x99 : Bool) (h : Hp) : DiffCleanupEfficiency_j8 K (k + 1) i0 x0 x1 x5 x6 x7 x8 x9 x10 x11 x12 x99 h =
  br x99
  (chk (Bool.not (pnil x6)) (chk (Bool.not (pnil x6)) (Option.bind ((Hp.ld h (.p (.int (.i64))) (padd 0 x6))) fun r0 =>
   Option.bind (splice K x1 r0 (0 : Int) (((-(1 : Int)), x7) :: [])) fun r1 =>
   chk (leI (0 : Int) (IntKind.wrap IntKind.i64 (r0 + (1 : Int)))) (chk (ltI (IntKind.wrap IntKind.i64 (r0 + (1 : Int))) ((List.length r1) : Int)) (chk (Bool.not (pnil x6)) (chk (Bool.not (pnil x6)) (Option.bind ((Hp.ld h (.pr) (padd 1 x6))) fun r2 =>
   br x9
   (DiffCleanupEfficiency_j9 K k i0 x0 (List.set r1 (Int.toNat (IntKind.wrap IntKind.i64 (r0 + (1 : Int)))) ((1 : Int), ((nth TS1 r1 (IntKind.wrap IntKind.i64 (r0 + (1 : Int))))).2)) r2 (ByteArray.mk (List.toArray [])) x8 x9 x10 x10 h)
   (DiffCleanupEfficiency_j9 K k i0 x0 (List.set r1 (Int.toNat (IntKind.wrap IntKind.i64 (r0 + (1 : Int)))) ((1 : Int), ((nth TS1 r1 (IntKind.wrap IntKind.i64 (r0 + (1 : Int))))).2)) r2 (ByteArray.mk (List.toArray [])) x8 x9 x10 Bool.false h))))))))
  (DiffCleanupEfficiency_l0 K k i0 x0 x1 x5 x6 x7 (IntKind.wrap IntKind.i64 (x8 + (1 : Int))) x9 x10 x11 x12 h) := by kernel_rfl
theorem DiffCleanupEfficiency_j9_eq (K k : Nat) (i0 : Int) (x0 : List (TS0.den)) (x1 : List (TS1.den)) (x6 : Pf) (x7 : ByteArray) (x8 : Int) (x9 : Bool) (x10 : Bool) (x122 : Bool) (h : Hp) : DiffCleanupEfficiency_j9 K (k + 1) i0 x0 x1 x6 x7 x8 x9 x10 x122 h =
  br x122
  (DiffCleanupEfficiency_l0 K k i0 x0 x1 Bool.true Pf.nil x7 (IntKind.wrap IntKind.i64 (x8 + (1 : Int))) x9 x10 Bool.true Bool.true h)
  (br (Bool.not (pnil x6))
   (chk (Bool.not (pnil x6)) (chk (Bool.not (pnil x6)) (Option.bind ((Hp.ld h (.pr) (padd 1 x6))) fun r0 =>
    DiffCleanupEfficiency_j10 K k i0 x0 x1 r0 x7 x9 x10 h)))
   (DiffCleanupEfficiency_j10 K k i0 x0 x1 x6 x7 x9 x10 h)) := by kernel_rfl
theorem DiffCleanupEfficiency_j10_eq (K k : Nat) (i0 : Int) (x0 : List (TS0.den)) (x1 : List (TS1.den)) (x6 : Pf) (x7 : ByteArray) (x9 : Bool) (x10 : Bool) (h : Hp) : DiffCleanupEfficiency_j10 K (k + 1) i0 x0 x1 x6 x7 x9 x10 h =
  br (Bool.not (pnil x6))
  (chk (Bool.not (pnil x6)) (chk (Bool.not (pnil x6)) (Option.bind ((Hp.ld h (.p (.int (.i64))) (padd 0 x6))) fun r0 =>
   DiffCleanupEfficiency_l0 K k i0 x0 x1 Bool.true x6 x7 (IntKind.wrap IntKind.i64 (r0 + (1 : Int))) x9 x10 Bool.false Bool.false h)))
  (DiffCleanupEfficiency_l0 K k i0 x0 x1 Bool.true x6 x7 (IntKind.wrap IntKind.i64 ((-(1 : Int)) + (1 : Int))) x9 x10 Bool.false Bool.false h) := by kernel_rfl
theorem diffs_eq (K : Nat) (x0 : List TS2.den) : diffs (K + 1) x0 =
  diffs_l0 K K [] x0 ((List.length x0) : Int) (0 : Int) := by kernel_rfl
theorem diffs_l0_eq (K k : Nat) (x3 : List (TS1.den)) (x6 : List (TS2.den)) (x7 : Int) (x8 : Int) : diffs_l0 K (k + 1) x3 x6 x7 x8 =
  br (ltI x8 x7)
  (diffs_j0 K k x3 x6 x7 x8)
  (some x3) := by kernel_rfl
theorem diffs_j0_eq (K k : Nat) (x3 : List (TS1.den)) (x6 : List (TS2.den)) (x7 : Int) (x8 : Int) : diffs_j0 K (k + 1) x3 x6 x7 x8 =
  chk (leI (0 : Int) x8) (chk (ltI x8 ((List.length x6) : Int)) (chk (ltI (((List.length x3) : Int) + ((List.length (((IntKind.wrap IntKind.i8 ((nth TS2 x6 x8)).1), ((nth TS2 x6 x8)).2) :: [])) : Int)) (1000000000000 : Int)) (diffs_l0 K k (x3 ++ (((IntKind.wrap IntKind.i8 ((nth TS2 x6 x8)).1), ((nth TS2 x6 x8)).2) :: [])) x6 x7 (IntKind.wrap IntKind.i64 (x8 + (1 : Int)))))) := by kernel_rfl
theorem DiffCleanupMerge_eq (K : Nat) (x0 : TS0.den) (x1 : List TS1.den) : DiffCleanupMerge (K + 1) x0 x1 =
  chk (ltI (((List.length x1) : Int) + ((List.length (((0 : Int), (ByteArray.mk (List.toArray []))) :: [])) : Int)) (1000000000000 : Int)) (DiffCleanupMerge_l0 K K (0 : Int) (x0 :: []) (x1 ++ (((0 : Int), (ByteArray.mk (List.toArray []))) :: [])) (0 : Int) (0 : Int) (0 : Int) [] []) := by kernel_rfl
theorem DiffCleanupMerge_l0_eq (K k : Nat) (i0 : Int) (x0 : List (TS0.den)) (x1 : List (TS1.den)) (x5 : Int) (x6 : Int) (x7 : Int) (x9 : List (Int)) (x10 : List (Int)) : DiffCleanupMerge_l0 K (k + 1) i0 x0 x1 x5 x6 x7 x9 x10 =
  br (ltI x5 ((List.length x1) : Int))
  (DiffCleanupMerge_j0 K k i0 x0 x1 x5 x6 x7 x9 x10)
  (DiffCleanupMerge_j1 K k i0 x0 x1) := by kernel_rfl
theorem DiffCleanupMerge_j0_eq (K k : Nat) (i0 : Int) (x0 : List (TS0.den)) (x1 : List (TS1.den)) (x5 : Int) (x6 : Int) (x7 : Int) (x9 : List (Int)) (x10 : List (Int)) : DiffCleanupMerge_j0 K (k + 1) i0 x0 x1 x5 x6 x7 x9 x10 =
  chk (leI (0 : Int) x5) (chk (ltI x5 ((List.length x1) : Int)) (br (eqI ((nth TS1 x1 x5)).1 (1 : Int))
  (chk (leI (0 : Int) x5) (chk (ltI x5 ((List.length x1) : Int)) (chk (nleI (List.length (runesI ((nth TS1 x1 x5)).2)) 70368744177664) (chk (ltI (((List.length x10) : Int) + ((List.length (runesI ((nth TS1 x1 x5)).2)) : Int)) (1000000000000 : Int)) (DiffCleanupMerge_l0 K k i0 x0 x1 (IntKind.wrap IntKind.i64 (x5 + (1 : Int))) x6 (IntKind.wrap IntKind.i64 (x7 + (1 : Int))) x9 (x10 ++ (runesI ((nth TS1 x1 x5)).2)))))))
  (br (eqI ((nth TS1 x1 x5)).1 (-(1 : Int)))
   (chk (leI (0 : Int) x5) (chk (ltI x5 ((List.length x1) : Int)) (chk (nleI (List.length (runesI ((nth TS1 x1 x5)).2)) 70368744177664) (chk (ltI (((List.length x9) : Int) + ((List.length (runesI ((nth TS1 x1 x5)).2)) : Int)) (1000000000000 : Int)) (DiffCleanupMerge_l0 K k i0 x0 x1 (IntKind.wrap IntKind.i64 (x5 + (1 : Int))) (IntKind.wrap IntKind.i64 (x6 + (1 : Int))) x7 (x9 ++ (runesI ((nth TS1 x1 x5)).2)) x10)))))
   (br (eqI ((nth TS1 x1 x5)).1 (0 : Int))
    (br (ltI (1 : Int) (IntKind.wrap IntKind.i64 (x6 + x7)))
     (br (Bool.not (eqI x6 (0 : Int)))
      (DiffCleanupMerge_j2 K k i0 x0 x1 x5 x6 x7 x9 x10 (Bool.not (eqI x7 (0 : Int))))
      (DiffCleanupMerge_j2 K k i0 x0 x1 x5 x6 x7 x9 x10 Bool.false))
     (br (Bool.not (eqI x5 (0 : Int)))
      (chk (leI (0 : Int) (IntKind.wrap IntKind.i64 (x5 - (1 : Int)))) (chk (ltI (IntKind.wrap IntKind.i64 (x5 - (1 : Int))) ((List.length x1) : Int)) (DiffCleanupMerge_j3 K k i0 x0 x1 x5 (eqI ((nth TS1 x1 (IntKind.wrap IntKind.i64 (x5 - (1 : Int))))).1 (0 : Int)))))
      (DiffCleanupMerge_j3 K k i0 x0 x1 x5 Bool.false)))
    (DiffCleanupMerge_l0 K k i0 x0 x1 x5 x6 x7 x9 x10))))) := by kernel_rfl
theorem DiffCleanupMerge_j1_eq (K k : Nat) (i0 : Int) (x0 : List (TS0.den)) (x1 : List (TS1.den)) : DiffCleanupMerge_j1 K (k + 1) i0 x0 x1 =
  chk (leI (0 : Int) (IntKind.wrap IntKind.i64 (((List.length x1) : Int) - (1 : Int)))) (chk (ltI (IntKind.wrap IntKind.i64 (((List.length x1) : Int) - (1 : Int))) ((List.length x1) : Int)) (br (eqI ((ByteArray.size ((nth TS1 x1 (IntKind.wrap IntKind.i64 (((List.length x1) : Int) - (1 : Int))))).2) : Int) (0 : Int))
  (chk (leI (0 : Int) (0 : Int)) (chk (leI (0 : Int) (IntKind.wrap IntKind.i64 (((List.length x1) : Int) - (1 : Int)))) (chk (leI (IntKind.wrap IntKind.i64 (((List.length x1) : Int) - (1 : Int))) ((List.length x1) : Int)) (DiffCleanupMerge_j4 K k i0 x0 (List.take (Int.toNat (IntKind.wrap IntKind.i64 (((List.length x1) : Int) - (1 : Int)))) x1)))))
  (DiffCleanupMerge_j4 K k i0 x0 x1))) := by kernel_rfl
theorem DiffCleanupMerge_j2_eq (K k : Nat) (i0 : Int) (x0 : List (TS0.den)) (x1 : List (TS1.den)) (x5 : Int) (x6 : Int) (x7 : Int) (x9 : List (Int)) (x10 : List (Int)) (x67 : Bool) : DiffCleanupMerge_j2 K (k + 1) i0 x0 x1 x5 x6 x7 x9 x10 x67 =
  br x67
  (Option.bind (commonPrefixLength K x10 x9) fun r0 =>
   br (Bool.not (eqI r0 (0 : Int)))
   (br (ltI (0 : Int) (IntKind.wrap IntKind.i64 ((IntKind.wrap IntKind.i64 (x5 - x6)) - x7)))
    (chk (leI (0 : Int) (IntKind.wrap IntKind.i64 ((IntKind.wrap IntKind.i64 ((IntKind.wrap IntKind.i64 (x5 - x6)) - x7)) - (1 : Int)))) (chk (ltI (IntKind.wrap IntKind.i64 ((IntKind.wrap IntKind.i64 ((IntKind.wrap IntKind.i64 (x5 - x6)) - x7)) - (1 : Int))) ((List.length x1) : Int)) (DiffCleanupMerge_j5 K k i0 x0 x1 x5 x6 x7 r0 x9 x10 (IntKind.wrap IntKind.i64 ((IntKind.wrap IntKind.i64 (x5 - x6)) - x7)) (eqI ((nth TS1 x1 (IntKind.wrap IntKind.i64 ((IntKind.wrap IntKind.i64 ((IntKind.wrap IntKind.i64 (x5 - x6)) - x7)) - (1 : Int))))).1 (0 : Int)))))
    (DiffCleanupMerge_j5 K k i0 x0 x1 x5 x6 x7 r0 x9 x10 (IntKind.wrap IntKind.i64 ((IntKind.wrap IntKind.i64 (x5 - x6)) - x7)) Bool.false))
   (DiffCleanupMerge_j6 K k i0 x0 x1 x5 x6 x7 x9 x10))
  (DiffCleanupMerge_j7 K k i0 x0 x1 x5 x6 x7 x9 x10) := by kernel_rfl
theorem DiffCleanupMerge_j3_eq (K k : Nat) (i0 : Int) (x0 : List (TS0.den)) (x1 : List (TS1.den)) (x5 : Int) (x220 : Bool) : DiffCleanupMerge_j3 K (k + 1) i0 x0 x1 x5 x220 =
  br x220
  (chk (leI (0 : Int) (IntKind.wrap IntKind.i64 (x5 - (1 : Int)))) (chk (ltI (IntKind.wrap IntKind.i64 (x5 - (1 : Int))) ((List.length x1) : Int)) (chk (leI (0 : Int) x5) (chk (ltI x5 ((List.length x1) : Int)) (chk (nleI ((ByteArray.size ((nth TS1 x1 (IntKind.wrap IntKind.i64 (x5 - (1 : Int))))).2) + (ByteArray.size ((nth TS1 x1 x5)).2)) 9223372036854775807) (chk (leI (0 : Int) (IntKind.wrap IntKind.i64 (x5 - (1 : Int)))) (chk (ltI (IntKind.wrap IntKind.i64 (x5 - (1 : Int))) ((List.length x1) : Int)) (chk (leI (0 : Int) (0 : Int)) (chk (leI (0 : Int) x5) (chk (leI x5 ((List.length (List.set x1 (Int.toNat (IntKind.wrap IntKind.i64 (x5 - (1 : Int)))) (((nth TS1 x1 (IntKind.wrap IntKind.i64 (x5 - (1 : Int))))).1, (ByteArray.append ((nth TS1 x1 (IntKind.wrap IntKind.i64 (x5 - (1 : Int))))).2 ((nth TS1 x1 x5)).2)))) : Int)) (chk (leI (0 : Int) (IntKind.wrap IntKind.i64 (x5 + (1 : Int)))) (chk (leI (IntKind.wrap IntKind.i64 (x5 + (1 : Int))) ((List.length (List.set x1 (Int.toNat (IntKind.wrap IntKind.i64 (x5 - (1 : Int)))) (((nth TS1 x1 (IntKind.wrap IntKind.i64 (x5 - (1 : Int))))).1, (ByteArray.append ((nth TS1 x1 (IntKind.wrap IntKind.i64 (x5 - (1 : Int))))).2 ((nth TS1 x1 x5)).2)))) : Int)) (chk (leI ((List.length (List.set x1 (Int.toNat (IntKind.wrap IntKind.i64 (x5 - (1 : Int)))) (((nth TS1 x1 (IntKind.wrap IntKind.i64 (x5 - (1 : Int))))).1, (ByteArray.append ((nth TS1 x1 (IntKind.wrap IntKind.i64 (x5 - (1 : Int))))).2 ((nth TS1 x1 x5)).2)))) : Int) ((List.length (List.set x1 (Int.toNat (IntKind.wrap IntKind.i64 (x5 - (1 : Int)))) (((nth TS1 x1 (IntKind.wrap IntKind.i64 (x5 - (1 : Int))))).1, (ByteArray.append ((nth TS1 x1 (IntKind.wrap IntKind.i64 (x5 - (1 : Int))))).2 ((nth TS1 x1 x5)).2)))) : Int)) (chk (eqI (0 : Int) (0 : Int)) (chk (ltI (x5 + ((List.length (List.take ((Int.toNat ((List.length (List.set x1 (Int.toNat (IntKind.wrap IntKind.i64 (x5 - (1 : Int)))) (((nth TS1 x1 (IntKind.wrap IntKind.i64 (x5 - (1 : Int))))).1, (ByteArray.append ((nth TS1 x1 (IntKind.wrap IntKind.i64 (x5 - (1 : Int))))).2 ((nth TS1 x1 x5)).2)))) : Int)) - (Int.toNat (IntKind.wrap IntKind.i64 (x5 + (1 : Int))))) (List.drop (Int.toNat (IntKind.wrap IntKind.i64 (x5 + (1 : Int)))) (List.set x1 (Int.toNat (IntKind.wrap IntKind.i64 (x5 - (1 : Int)))) (((nth TS1 x1 (IntKind.wrap IntKind.i64 (x5 - (1 : Int))))).1, (ByteArray.append ((nth TS1 x1 (IntKind.wrap IntKind.i64 (x5 - (1 : Int))))).2 ((nth TS1 x1 x5)).2)))))) : Int)) (1000000000000 : Int)) (DiffCleanupMerge_l0 K k i0 x0 ((List.take (Int.toNat x5) (List.set x1 (Int.toNat (IntKind.wrap IntKind.i64 (x5 - (1 : Int)))) (((nth TS1 x1 (IntKind.wrap IntKind.i64 (x5 - (1 : Int))))).1, (ByteArray.append ((nth TS1 x1 (IntKind.wrap IntKind.i64 (x5 - (1 : Int))))).2 ((nth TS1 x1 x5)).2)))) ++ (List.take ((Int.toNat ((List.length (List.set x1 (Int.toNat (IntKind.wrap IntKind.i64 (x5 - (1 : Int)))) (((nth TS1 x1 (IntKind.wrap IntKind.i64 (x5 - (1 : Int))))).1, (ByteArray.append ((nth TS1 x1 (IntKind.wrap IntKind.i64 (x5 - (1 : Int))))).2 ((nth TS1 x1 x5)).2)))) : Int)) - (Int.toNat (IntKind.wrap IntKind.i64 (x5 + (1 : Int))))) (List.drop (Int.toNat (IntKind.wrap IntKind.i64 (x5 + (1 : Int)))) (List.set x1 (Int.toNat (IntKind.wrap IntKind.i64 (x5 - (1 : Int)))) (((nth TS1 x1 (IntKind.wrap IntKind.i64 (x5 - (1 : Int))))).1, (ByteArray.append ((nth TS1 x1 (IntKind.wrap IntKind.i64 (x5 - (1 : Int))))).2 ((nth TS1 x1 x5)).2)))))) x5 (0 : Int) (0 : Int) [] []))))))))))))))))
  (DiffCleanupMerge_l0 K k i0 x0 x1 (IntKind.wrap IntKind.i64 (x5 + (1 : Int))) (0 : Int) (0 : Int) [] []) := by kernel_rfl
theorem DiffCleanupMerge_j4_eq (K k : Nat) (i0 : Int) (x0 : List (TS0.den)) (x1 : List (TS1.den)) : DiffCleanupMerge_j4 K (k + 1) i0 x0 x1 =
  DiffCleanupMerge_l1 K k i0 x0 x1 (1 : Int) Bool.false := by kernel_rfl
theorem DiffCleanupMerge_j5_eq (K k : Nat) (i0 : Int) (x0 : List (TS0.den)) (x1 : List (TS1.den)) (x5 : Int) (x6 : Int) (x7 : Int) (x8 : Int) (x9 : List (Int)) (x10 : List (Int)) (x11 : Int) (x88 : Bool) : DiffCleanupMerge_j5 K (k + 1) i0 x0 x1 x5 x6 x7 x8 x9 x10 x11 x88 =
  br x88
  (chk (leI (0 : Int) (IntKind.wrap IntKind.i64 (x11 - (1 : Int)))) (chk (ltI (IntKind.wrap IntKind.i64 (x11 - (1 : Int))) ((List.length x1) : Int)) (chk (leI (0 : Int) (0 : Int)) (chk (leI (0 : Int) x8) (chk (leI x8 ((List.length x10) : Int)) (chk (nleI ((ByteArray.size ((nth TS1 x1 (IntKind.wrap IntKind.i64 (x11 - (1 : Int))))).2) + (ByteArray.size (strOfRunes (List.take ((Int.toNat x8) - (Int.toNat (0 : Int))) (List.drop (Int.toNat (0 : Int)) x10))))) 9223372036854775807) (chk (leI (0 : Int) (IntKind.wrap IntKind.i64 (x11 - (1 : Int)))) (chk (ltI (IntKind.wrap IntKind.i64 (x11 - (1 : Int))) ((List.length x1) : Int)) (chk (leI (0 : Int) x8) (chk (leI x8 ((List.length x10) : Int)) (chk (leI ((List.length x10) : Int) ((List.length x10) : Int)) (chk (leI (0 : Int) x8) (chk (leI x8 ((List.length x9) : Int)) (chk (leI ((List.length x9) : Int) ((List.length x9) : Int)) (DiffCleanupMerge_j8 K k i0 x0 (List.set x1 (Int.toNat (IntKind.wrap IntKind.i64 (x11 - (1 : Int)))) (((nth TS1 x1 (IntKind.wrap IntKind.i64 (x11 - (1 : Int))))).1, (ByteArray.append ((nth TS1 x1 (IntKind.wrap IntKind.i64 (x11 - (1 : Int))))).2 (strOfRunes (List.take ((Int.toNat x8) - (Int.toNat (0 : Int))) (List.drop (Int.toNat (0 : Int)) x10)))))) x5 x6 x7 (List.take ((Int.toNat ((List.length x9) : Int)) - (Int.toNat x8)) (List.drop (Int.toNat x8) x9)) (List.take ((Int.toNat ((List.length x10) : Int)) - (Int.toNat x8)) (List.drop (Int.toNat x8) x10)))))))))))))))))
  (chk (leI (0 : Int) (0 : Int)) (chk (leI (0 : Int) x8) (chk (leI x8 ((List.length x10) : Int)) (chk (ltI (((List.length (((0 : Int), (strOfRunes (List.take ((Int.toNat x8) - (Int.toNat (0 : Int))) (List.drop (Int.toNat (0 : Int)) x10)))) :: [])) : Int) + ((List.length x1) : Int)) (1000000000000 : Int)) (chk (leI (0 : Int) x8) (chk (leI x8 ((List.length x10) : Int)) (chk (leI ((List.length x10) : Int) ((List.length x10) : Int)) (chk (leI (0 : Int) x8) (chk (leI x8 ((List.length x9) : Int)) (chk (leI ((List.length x9) : Int) ((List.length x9) : Int)) (DiffCleanupMerge_j8 K k i0 x0 ((((0 : Int), (strOfRunes (List.take ((Int.toNat x8) - (Int.toNat (0 : Int))) (List.drop (Int.toNat (0 : Int)) x10)))) :: []) ++ x1) (IntKind.wrap IntKind.i64 (x5 + (1 : Int))) x6 x7 (List.take ((Int.toNat ((List.length x9) : Int)) - (Int.toNat x8)) (List.drop (Int.toNat x8) x9)) (List.take ((Int.toNat ((List.length x10) : Int)) - (Int.toNat x8)) (List.drop (Int.toNat x8) x10))))))))))))) := by kernel_rfl
theorem DiffCleanupMerge_j6_eq (K k : Nat) (i0 : Int) (x0 : List (TS0.den)) (x1 : List (TS1.den)) (x5 : Int) (x6 : Int) (x7 : Int) (x9 : List (Int)) (x10 : List (Int)) : DiffCleanupMerge_j6 K (k + 1) i0 x0 x1 x5 x6 x7 x9 x10 =
  Option.bind (commonSuffixLength K x10 x9) fun r0 =>
  br (Bool.not (eqI r0 (0 : Int)))
  (chk (leI (0 : Int) (IntKind.wrap IntKind.i64 (((List.length x10) : Int) - r0))) (chk (leI (IntKind.wrap IntKind.i64 (((List.length x10) : Int) - r0)) ((List.length x10) : Int)) (chk (leI ((List.length x10) : Int) ((List.length x10) : Int)) (chk (leI (0 : Int) x5) (chk (ltI x5 ((List.length x1) : Int)) (chk (nleI ((ByteArray.size (strOfRunes (List.take ((Int.toNat ((List.length x10) : Int)) - (Int.toNat (IntKind.wrap IntKind.i64 (((List.length x10) : Int) - r0)))) (List.drop (Int.toNat (IntKind.wrap IntKind.i64 (((List.length x10) : Int) - r0))) x10)))) + (ByteArray.size ((nth TS1 x1 x5)).2)) 9223372036854775807) (chk (leI (0 : Int) x5) (chk (ltI x5 ((List.length x1) : Int)) (chk (leI (0 : Int) (0 : Int)) (chk (leI (0 : Int) (IntKind.wrap IntKind.i64 (((List.length x10) : Int) - r0))) (chk (leI (IntKind.wrap IntKind.i64 (((List.length x10) : Int) - r0)) ((List.length x10) : Int)) (chk (leI (0 : Int) (0 : Int)) (chk (leI (0 : Int) (IntKind.wrap IntKind.i64 (((List.length x9) : Int) - r0))) (chk (leI (IntKind.wrap IntKind.i64 (((List.length x9) : Int) - r0)) ((List.length x9) : Int)) (DiffCleanupMerge_j7 K k i0 x0 (List.set x1 (Int.toNat x5) (((nth TS1 x1 x5)).1, (ByteArray.append (strOfRunes (List.take ((Int.toNat ((List.length x10) : Int)) - (Int.toNat (IntKind.wrap IntKind.i64 (((List.length x10) : Int) - r0)))) (List.drop (Int.toNat (IntKind.wrap IntKind.i64 (((List.length x10) : Int) - r0))) x10))) ((nth TS1 x1 x5)).2))) x5 x6 x7 (List.take (Int.toNat (IntKind.wrap IntKind.i64 (((List.length x9) : Int) - r0))) x9) (List.take (Int.toNat (IntKind.wrap IntKind.i64 (((List.length x10) : Int) - r0))) x10))))))))))))))))
  (DiffCleanupMerge_j7 K k i0 x0 x1 x5 x6 x7 x9 x10) := by kernel_rfl
theorem DiffCleanupMerge_j7_eq (K k : Nat) (i0 : Int) (x0 : List (TS0.den)) (x1 : List (TS1.den)) (x5 : Int) (x6 : Int) (x7 : Int) (x9 : List (Int)) (x10 : List (Int)) : DiffCleanupMerge_j7 K (k + 1) i0 x0 x1 x5 x6 x7 x9 x10 =
  br (eqI x6 (0 : Int))
  (Option.bind (splice K x1 (IntKind.wrap IntKind.i64 (x5 - x7)) (IntKind.wrap IntKind.i64 (x6 + x7)) (((1 : Int), (strOfRunes x10)) :: [])) fun r0 =>
   DiffCleanupMerge_j9 K k i0 x0 r0 x5 x6 x7)
  (br (eqI x7 (0 : Int))
   (Option.bind (splice K x1 (IntKind.wrap IntKind.i64 (x5 - x6)) (IntKind.wrap IntKind.i64 (x6 + x7)) (((-(1 : Int)), (strOfRunes x9)) :: [])) fun r0 =>
    DiffCleanupMerge_j9 K k i0 x0 r0 x5 x6 x7)
   (Option.bind (splice K x1 (IntKind.wrap IntKind.i64 ((IntKind.wrap IntKind.i64 (x5 - x6)) - x7)) (IntKind.wrap IntKind.i64 (x6 + x7)) (((-(1 : Int)), (strOfRunes x9)) :: (((1 : Int), (strOfRunes x10)) :: []))) fun r0 =>
    DiffCleanupMerge_j9 K k i0 x0 r0 x5 x6 x7)) := by kernel_rfl
theorem DiffCleanupMerge_l1_eq (K k : Nat) (i0 : Int) (x0 : List (TS0.den)) (x1 : List (TS1.den)) (x5 : Int) (x14 : Bool) : DiffCleanupMerge_l1 K (k + 1) i0 x0 x1 x5 x14 =
  br (ltI x5 (IntKind.wrap IntKind.i64 (((List.length x1) : Int) - (1 : Int))))
  (DiffCleanupMerge_j10 K k i0 x0 x1 x5 x14)
  (DiffCleanupMerge_j11 K k i0 x0 x1 x14) := by kernel_rfl
theorem DiffCleanupMerge_j8_eq (K k : Nat) (i0 : Int) (x0 : List (TS0.den)) (x1 : List (TS1.den)) (x5 : Int) (x6 : Int) (x7 : Int) (x9 : List (Int)) (x10 : List (Int)) : DiffCleanupMerge_j8 K (k + 1) i0 x0 x1 x5 x6 x7 x9 x10 =
  Option.bind (commonSuffixLength K x10 x9) fun r0 =>
  br (Bool.not (eqI r0 (0 : Int)))
  (chk (leI (0 : Int) (IntKind.wrap IntKind.i64 (((List.length x10) : Int) - r0))) (chk (leI (IntKind.wrap IntKind.i64 (((List.length x10) : Int) - r0)) ((List.length x10) : Int)) (chk (leI ((List.length x10) : Int) ((List.length x10) : Int)) (chk (leI (0 : Int) x5) (chk (ltI x5 ((List.length x1) : Int)) (chk (nleI ((ByteArray.size (strOfRunes (List.take ((Int.toNat ((List.length x10) : Int)) - (Int.toNat (IntKind.wrap IntKind.i64 (((List.length x10) : Int) - r0)))) (List.drop (Int.toNat (IntKind.wrap IntKind.i64 (((List.length x10) : Int) - r0))) x10)))) + (ByteArray.size ((nth TS1 x1 x5)).2)) 9223372036854775807) (chk (leI (0 : Int) x5) (chk (ltI x5 ((List.length x1) : Int)) (chk (leI (0 : Int) (0 : Int)) (chk (leI (0 : Int) (IntKind.wrap IntKind.i64 (((List.length x10) : Int) - r0))) (chk (leI (IntKind.wrap IntKind.i64 (((List.length x10) : Int) - r0)) ((List.length x10) : Int)) (chk (leI (0 : Int) (0 : Int)) (chk (leI (0 : Int) (IntKind.wrap IntKind.i64 (((List.length x9) : Int) - r0))) (chk (leI (IntKind.wrap IntKind.i64 (((List.length x9) : Int) - r0)) ((List.length x9) : Int)) (DiffCleanupMerge_j12 K k i0 x0 (List.set x1 (Int.toNat x5) (((nth TS1 x1 x5)).1, (ByteArray.append (strOfRunes (List.take ((Int.toNat ((List.length x10) : Int)) - (Int.toNat (IntKind.wrap IntKind.i64 (((List.length x10) : Int) - r0)))) (List.drop (Int.toNat (IntKind.wrap IntKind.i64 (((List.length x10) : Int) - r0))) x10))) ((nth TS1 x1 x5)).2))) x5 x6 x7 (List.take ((Int.toNat (IntKind.wrap IntKind.i64 (((List.length x9) : Int) - r0))) - (Int.toNat (0 : Int))) (List.drop (Int.toNat (0 : Int)) x9)) (List.take ((Int.toNat (IntKind.wrap IntKind.i64 (((List.length x10) : Int) - r0))) - (Int.toNat (0 : Int))) (List.drop (Int.toNat (0 : Int)) x10)))))))))))))))))
  (DiffCleanupMerge_j12 K k i0 x0 x1 x5 x6 x7 x9 x10) := by kernel_rfl
theorem DiffCleanupMerge_j9_eq (K k : Nat) (i0 : Int) (x0 : List (TS0.den)) (x1 : List (TS1.den)) (x5 : Int) (x6 : Int) (x7 : Int) : DiffCleanupMerge_j9 K (k + 1) i0 x0 x1 x5 x6 x7 =
  br (Bool.not (eqI x6 (0 : Int)))
  (DiffCleanupMerge_j13 K k i0 x0 x1 (IntKind.wrap IntKind.i64 ((IntKind.wrap IntKind.i64 ((IntKind.wrap IntKind.i64 ((IntKind.wrap IntKind.i64 (x5 - x6)) - x7)) + (1 : Int))) + (1 : Int))) x7)
  (DiffCleanupMerge_j13 K k i0 x0 x1 (IntKind.wrap IntKind.i64 ((IntKind.wrap IntKind.i64 ((IntKind.wrap IntKind.i64 (x5 - x6)) - x7)) + (1 : Int))) x7) := by kernel_rfl
theorem DiffCleanupMerge_j10_eq (K k : Nat) (i0 : Int) (x0 : List (TS0.den)) (x1 : List (TS1.den)) (x5 : Int) (x14 : Bool) : DiffCleanupMerge_j10 K (k + 1) i0 x0 x1 x5 x14 =
  chk (leI (0 : Int) (IntKind.wrap IntKind.i64 (x5 - (1 : Int)))) (chk (ltI (IntKind.wrap IntKind.i64 (x5 - (1 : Int))) ((List.length x1) : Int)) (br (eqI ((nth TS1 x1 (IntKind.wrap IntKind.i64 (x5 - (1 : Int))))).1 (0 : Int))
  (chk (leI (0 : Int) (IntKind.wrap IntKind.i64 (x5 + (1 : Int)))) (chk (ltI (IntKind.wrap IntKind.i64 (x5 + (1 : Int))) ((List.length x1) : Int)) (DiffCleanupMerge_j14 K k i0 x0 x1 x5 x14 (eqI ((nth TS1 x1 (IntKind.wrap IntKind.i64 (x5 + (1 : Int))))).1 (0 : Int)))))
  (DiffCleanupMerge_j14 K k i0 x0 x1 x5 x14 Bool.false))) := by kernel_rfl
theorem DiffCleanupMerge_j11_eq (K k : Nat) (i0 : Int) (x0 : List (TS0.den)) (x1 : List (TS1.den)) (x14 : Bool) : DiffCleanupMerge_j11 K (k + 1) i0 x0 x1 x14 =
  br x14
  (Option.bind (DiffCleanupMerge K (nth TS0 x0 i0) x1) fun r0 =>
   some r0)
  (some x1) := by kernel_rfl
theorem DiffCleanupMerge_j12_eq (K k : Nat) (i0 : Int) (x0 : List (TS0.den)) (x1 : List (TS1.den)) (x5 : Int) (x6 : Int) (x7 : Int) (x9 : List (Int)) (x10 : List (Int)) : DiffCleanupMerge_j12 K (k + 1) i0 x0 x1 x5 x6 x7 x9 x10 =
  br (eqI x6 (0 : Int))
  (Option.bind (splice K x1 (IntKind.wrap IntKind.i64 (x5 - x7)) (IntKind.wrap IntKind.i64 (x6 + x7)) (((1 : Int), (strOfRunes x10)) :: [])) fun r0 =>
   DiffCleanupMerge_j9 K k i0 x0 r0 x5 x6 x7)
  (br (eqI x7 (0 : Int))
   (Option.bind (splice K x1 (IntKind.wrap IntKind.i64 (x5 - x6)) (IntKind.wrap IntKind.i64 (x6 + x7)) (((-(1 : Int)), (strOfRunes x9)) :: [])) fun r0 =>
    DiffCleanupMerge_j9 K k i0 x0 r0 x5 x6 x7)
   (Option.bind (splice K x1 (IntKind.wrap IntKind.i64 ((IntKind.wrap IntKind.i64 (x5 - x6)) - x7)) (IntKind.wrap IntKind.i64 (x6 + x7)) (((-(1 : Int)), (strOfRunes x9)) :: (((1 : Int), (strOfRunes x10)) :: []))) fun r0 =>
    DiffCleanupMerge_j9 K k i0 x0 r0 x5 x6 x7)) := by kernel_rfl
theorem DiffCleanupMerge_j13_eq (K k : Nat) (i0 : Int) (x0 : List (TS0.den)) (x1 : List (TS1.den)) (x5 : Int) (x7 : Int) : DiffCleanupMerge_j13 K (k + 1) i0 x0 x1 x5 x7 =
  br (Bool.not (eqI x7 (0 : Int)))
  (DiffCleanupMerge_l0 K k i0 x0 x1 (IntKind.wrap IntKind.i64 (x5 + (1 : Int))) (0 : Int) (0 : Int) [] [])
  (DiffCleanupMerge_l0 K k i0 x0 x1 x5 (0 : Int) (0 : Int) [] []) := by kernel_rfl
theorem DiffCleanupMerge_j14_eq (K k : Nat) (i0 : Int) (x0 : List (TS0.den)) (x1 : List (TS1.den)) (x5 : Int) (x14 : Bool) (x279 : Bool) : DiffCleanupMerge_j14 K (k + 1) i0 x0 x1 x5 x14 x279 =
  br x279
  (chk (leI (0 : Int) x5) (chk (ltI x5 ((List.length x1) : Int)) (chk (leI (0 : Int) (IntKind.wrap IntKind.i64 (x5 - (1 : Int)))) (chk (ltI (IntKind.wrap IntKind.i64 (x5 - (1 : Int))) ((List.length x1) : Int)) (Option.bind (strings_HasSuffix K ((nth TS1 x1 x5)).2 ((nth TS1 x1 (IntKind.wrap IntKind.i64 (x5 - (1 : Int))))).2) fun r0 =>
   br r0
   (chk (leI (0 : Int) (IntKind.wrap IntKind.i64 (x5 - (1 : Int)))) (chk (ltI (IntKind.wrap IntKind.i64 (x5 - (1 : Int))) ((List.length x1) : Int)) (chk (leI (0 : Int) x5) (chk (ltI x5 ((List.length x1) : Int)) (chk (leI (0 : Int) x5) (chk (ltI x5 ((List.length x1) : Int)) (chk (leI (0 : Int) (IntKind.wrap IntKind.i64 (x5 - (1 : Int)))) (chk (ltI (IntKind.wrap IntKind.i64 (x5 - (1 : Int))) ((List.length x1) : Int)) (chk (leI (0 : Int) (0 : Int)) (chk (leI (0 : Int) (IntKind.wrap IntKind.i64 (((ByteArray.size ((nth TS1 x1 x5)).2) : Int) - ((ByteArray.size ((nth TS1 x1 (IntKind.wrap IntKind.i64 (x5 - (1 : Int))))).2) : Int)))) (chk (leI (IntKind.wrap IntKind.i64 (((ByteArray.size ((nth TS1 x1 x5)).2) : Int) - ((ByteArray.size ((nth TS1 x1 (IntKind.wrap IntKind.i64 (x5 - (1 : Int))))).2) : Int))) ((ByteArray.size ((nth TS1 x1 x5)).2) : Int)) (chk (nleI ((ByteArray.size ((nth TS1 x1 (IntKind.wrap IntKind.i64 (x5 - (1 : Int))))).2) + (ByteArray.size (ByteArray.extract ((nth TS1 x1 x5)).2 (Int.toNat (0 : Int)) (Int.toNat (IntKind.wrap IntKind.i64 (((ByteArray.size ((nth TS1 x1 x5)).2) : Int) - ((ByteArray.size ((nth TS1 x1 (IntKind.wrap IntKind.i64 (x5 - (1 : Int))))).2) : Int))))))) 9223372036854775807) (chk (leI (0 : Int) x5) (chk (ltI x5 ((List.length x1) : Int)) (chk (leI (0 : Int) (IntKind.wrap IntKind.i64 (x5 - (1 : Int)))) (chk (ltI (IntKind.wrap IntKind.i64 (x5 - (1 : Int))) ((List.length (List.set x1 (Int.toNat x5) (((nth TS1 x1 x5)).1, (ByteArray.append ((nth TS1 x1 (IntKind.wrap IntKind.i64 (x5 - (1 : Int))))).2 (ByteArray.extract ((nth TS1 x1 x5)).2 (Int.toNat (0 : Int)) (Int.toNat (IntKind.wrap IntKind.i64 (((ByteArray.size ((nth TS1 x1 x5)).2) : Int) - ((ByteArray.size ((nth TS1 x1 (IntKind.wrap IntKind.i64 (x5 - (1 : Int))))).2) : Int))))))))) : Int)) (chk (leI (0 : Int) (IntKind.wrap IntKind.i64 (x5 + (1 : Int)))) (chk (ltI (IntKind.wrap IntKind.i64 (x5 + (1 : Int))) ((List.length (List.set x1 (Int.toNat x5) (((nth TS1 x1 x5)).1, (ByteArray.append ((nth TS1 x1 (IntKind.wrap IntKind.i64 (x5 - (1 : Int))))).2 (ByteArray.extract ((nth TS1 x1 x5)).2 (Int.toNat (0 : Int)) (Int.toNat (IntKind.wrap IntKind.i64 (((ByteArray.size ((nth TS1 x1 x5)).2) : Int) - ((ByteArray.size ((nth TS1 x1 (IntKind.wrap IntKind.i64 (x5 - (1 : Int))))).2) : Int))))))))) : Int)) (chk (nleI ((ByteArray.size ((nth TS1 (List.set x1 (Int.toNat x5) (((nth TS1 x1 x5)).1, (ByteArray.append ((nth TS1 x1 (IntKind.wrap IntKind.i64 (x5 - (1 : Int))))).2 (ByteArray.extract ((nth TS1 x1 x5)).2 (Int.toNat (0 : Int)) (Int.toNat (IntKind.wrap IntKind.i64 (((ByteArray.size ((nth TS1 x1 x5)).2) : Int) - ((ByteArray.size ((nth TS1 x1 (IntKind.wrap IntKind.i64 (x5 - (1 : Int))))).2) : Int)))))))) (IntKind.wrap IntKind.i64 (x5 - (1 : Int))))).2) + (ByteArray.size ((nth TS1 (List.set x1 (Int.toNat x5) (((nth TS1 x1 x5)).1, (ByteArray.append ((nth TS1 x1 (IntKind.wrap IntKind.i64 (x5 - (1 : Int))))).2 (ByteArray.extract ((nth TS1 x1 x5)).2 (Int.toNat (0 : Int)) (Int.toNat (IntKind.wrap IntKind.i64 (((ByteArray.size ((nth TS1 x1 x5)).2) : Int) - ((ByteArray.size ((nth TS1 x1 (IntKind.wrap IntKind.i64 (x5 - (1 : Int))))).2) : Int)))))))) (IntKind.wrap IntKind.i64 (x5 + (1 : Int))))).2)) 9223372036854775807) (chk (leI (0 : Int) (IntKind.wrap IntKind.i64 (x5 + (1 : Int)))) (chk (ltI (IntKind.wrap IntKind.i64 (x5 + (1 : Int))) ((List.length (List.set x1 (Int.toNat x5) (((nth TS1 x1 x5)).1, (ByteArray.append ((nth TS1 x1 (IntKind.wrap IntKind.i64 (x5 - (1 : Int))))).2 (ByteArray.extract ((nth TS1 x1 x5)).2 (Int.toNat (0 : Int)) (Int.toNat (IntKind.wrap IntKind.i64 (((ByteArray.size ((nth TS1 x1 x5)).2) : Int) - ((ByteArray.size ((nth TS1 x1 (IntKind.wrap IntKind.i64 (x5 - (1 : Int))))).2) : Int))))))))) : Int)) (Option.bind (splice K (List.set (List.set x1 (Int.toNat x5) (((nth TS1 x1 x5)).1, (ByteArray.append ((nth TS1 x1 (IntKind.wrap IntKind.i64 (x5 - (1 : Int))))).2 (ByteArray.extract ((nth TS1 x1 x5)).2 (Int.toNat (0 : Int)) (Int.toNat (IntKind.wrap IntKind.i64 (((ByteArray.size ((nth TS1 x1 x5)).2) : Int) - ((ByteArray.size ((nth TS1 x1 (IntKind.wrap IntKind.i64 (x5 - (1 : Int))))).2) : Int)))))))) (Int.toNat (IntKind.wrap IntKind.i64 (x5 + (1 : Int)))) (((nth TS1 (List.set x1 (Int.toNat x5) (((nth TS1 x1 x5)).1, (ByteArray.append ((nth TS1 x1 (IntKind.wrap IntKind.i64 (x5 - (1 : Int))))).2 (ByteArray.extract ((nth TS1 x1 x5)).2 (Int.toNat (0 : Int)) (Int.toNat (IntKind.wrap IntKind.i64 (((ByteArray.size ((nth TS1 x1 x5)).2) : Int) - ((ByteArray.size ((nth TS1 x1 (IntKind.wrap IntKind.i64 (x5 - (1 : Int))))).2) : Int)))))))) (IntKind.wrap IntKind.i64 (x5 + (1 : Int))))).1, (ByteArray.append ((nth TS1 (List.set x1 (Int.toNat x5) (((nth TS1 x1 x5)).1, (ByteArray.append ((nth TS1 x1 (IntKind.wrap IntKind.i64 (x5 - (1 : Int))))).2 (ByteArray.extract ((nth TS1 x1 x5)).2 (Int.toNat (0 : Int)) (Int.toNat (IntKind.wrap IntKind.i64 (((ByteArray.size ((nth TS1 x1 x5)).2) : Int) - ((ByteArray.size ((nth TS1 x1 (IntKind.wrap IntKind.i64 (x5 - (1 : Int))))).2) : Int)))))))) (IntKind.wrap IntKind.i64 (x5 - (1 : Int))))).2 ((nth TS1 (List.set x1 (Int.toNat x5) (((nth TS1 x1 x5)).1, (ByteArray.append ((nth TS1 x1 (IntKind.wrap IntKind.i64 (x5 - (1 : Int))))).2 (ByteArray.extract ((nth TS1 x1 x5)).2 (Int.toNat (0 : Int)) (Int.toNat (IntKind.wrap IntKind.i64 (((ByteArray.size ((nth TS1 x1 x5)).2) : Int) - ((ByteArray.size ((nth TS1 x1 (IntKind.wrap IntKind.i64 (x5 - (1 : Int))))).2) : Int)))))))) (IntKind.wrap IntKind.i64 (x5 + (1 : Int))))).2))) (IntKind.wrap IntKind.i64 (x5 - (1 : Int))) (1 : Int) []) fun r1 =>
    DiffCleanupMerge_l1 K k i0 x0 r1 (IntKind.wrap IntKind.i64 (x5 + (1 : Int))) Bool.true))))))))))))))))))))))
   (chk (leI (0 : Int) x5) (chk (ltI x5 ((List.length x1) : Int)) (chk (leI (0 : Int) (IntKind.wrap IntKind.i64 (x5 + (1 : Int)))) (chk (ltI (IntKind.wrap IntKind.i64 (x5 + (1 : Int))) ((List.length x1) : Int)) (Option.bind (strings_HasPrefix K ((nth TS1 x1 x5)).2 ((nth TS1 x1 (IntKind.wrap IntKind.i64 (x5 + (1 : Int))))).2) fun r1 =>
    br r1
    (chk (leI (0 : Int) (IntKind.wrap IntKind.i64 (x5 - (1 : Int)))) (chk (ltI (IntKind.wrap IntKind.i64 (x5 - (1 : Int))) ((List.length x1) : Int)) (chk (leI (0 : Int) (IntKind.wrap IntKind.i64 (x5 + (1 : Int)))) (chk (ltI (IntKind.wrap IntKind.i64 (x5 + (1 : Int))) ((List.length x1) : Int)) (chk (nleI ((ByteArray.size ((nth TS1 x1 (IntKind.wrap IntKind.i64 (x5 - (1 : Int))))).2) + (ByteArray.size ((nth TS1 x1 (IntKind.wrap IntKind.i64 (x5 + (1 : Int))))).2)) 9223372036854775807) (chk (leI (0 : Int) (IntKind.wrap IntKind.i64 (x5 - (1 : Int)))) (chk (ltI (IntKind.wrap IntKind.i64 (x5 - (1 : Int))) ((List.length x1) : Int)) (chk (leI (0 : Int) x5) (chk (ltI x5 ((List.length (List.set x1 (Int.toNat (IntKind.wrap IntKind.i64 (x5 - (1 : Int)))) (((nth TS1 x1 (IntKind.wrap IntKind.i64 (x5 - (1 : Int))))).1, (ByteArray.append ((nth TS1 x1 (IntKind.wrap IntKind.i64 (x5 - (1 : Int))))).2 ((nth TS1 x1 (IntKind.wrap IntKind.i64 (x5 + (1 : Int))))).2)))) : Int)) (chk (leI (0 : Int) (IntKind.wrap IntKind.i64 (x5 + (1 : Int)))) (chk (ltI (IntKind.wrap IntKind.i64 (x5 + (1 : Int))) ((List.length (List.set x1 (Int.toNat (IntKind.wrap IntKind.i64 (x5 - (1 : Int)))) (((nth TS1 x1 (IntKind.wrap IntKind.i64 (x5 - (1 : Int))))).1, (ByteArray.append ((nth TS1 x1 (IntKind.wrap IntKind.i64 (x5 - (1 : Int))))).2 ((nth TS1 x1 (IntKind.wrap IntKind.i64 (x5 + (1 : Int))))).2)))) : Int)) (chk (leI (0 : Int) ((ByteArray.size ((nth TS1 (List.set x1 (Int.toNat (IntKind.wrap IntKind.i64 (x5 - (1 : Int)))) (((nth TS1 x1 (IntKind.wrap IntKind.i64 (x5 - (1 : Int))))).1, (ByteArray.append ((nth TS1 x1 (IntKind.wrap IntKind.i64 (x5 - (1 : Int))))).2 ((nth TS1 x1 (IntKind.wrap IntKind.i64 (x5 + (1 : Int))))).2))) (IntKind.wrap IntKind.i64 (x5 + (1 : Int))))).2) : Int)) (chk (leI ((ByteArray.size ((nth TS1 (List.set x1 (Int.toNat (IntKind.wrap IntKind.i64 (x5 - (1 : Int)))) (((nth TS1 x1 (IntKind.wrap IntKind.i64 (x5 - (1 : Int))))).1, (ByteArray.append ((nth TS1 x1 (IntKind.wrap IntKind.i64 (x5 - (1 : Int))))).2 ((nth TS1 x1 (IntKind.wrap IntKind.i64 (x5 + (1 : Int))))).2))) (IntKind.wrap IntKind.i64 (x5 + (1 : Int))))).2) : Int) ((ByteArray.size ((nth TS1 (List.set x1 (Int.toNat (IntKind.wrap IntKind.i64 (x5 - (1 : Int)))) (((nth TS1 x1 (IntKind.wrap IntKind.i64 (x5 - (1 : Int))))).1, (ByteArray.append ((nth TS1 x1 (IntKind.wrap IntKind.i64 (x5 - (1 : Int))))).2 ((nth TS1 x1 (IntKind.wrap IntKind.i64 (x5 + (1 : Int))))).2))) x5)).2) : Int)) (chk (leI ((ByteArray.size ((nth TS1 (List.set x1 (Int.toNat (IntKind.wrap IntKind.i64 (x5 - (1 : Int)))) (((nth TS1 x1 (IntKind.wrap IntKind.i64 (x5 - (1 : Int))))).1, (ByteArray.append ((nth TS1 x1 (IntKind.wrap IntKind.i64 (x5 - (1 : Int))))).2 ((nth TS1 x1 (IntKind.wrap IntKind.i64 (x5 + (1 : Int))))).2))) x5)).2) : Int) ((ByteArray.size ((nth TS1 (List.set x1 (Int.toNat (IntKind.wrap IntKind.i64 (x5 - (1 : Int)))) (((nth TS1 x1 (IntKind.wrap IntKind.i64 (x5 - (1 : Int))))).1, (ByteArray.append ((nth TS1 x1 (IntKind.wrap IntKind.i64 (x5 - (1 : Int))))).2 ((nth TS1 x1 (IntKind.wrap IntKind.i64 (x5 + (1 : Int))))).2))) x5)).2) : Int)) (chk (leI (0 : Int) (IntKind.wrap IntKind.i64 (x5 + (1 : Int)))) (chk (ltI (IntKind.wrap IntKind.i64 (x5 + (1 : Int))) ((List.length (List.set x1 (Int.toNat (IntKind.wrap IntKind.i64 (x5 - (1 : Int)))) (((nth TS1 x1 (IntKind.wrap IntKind.i64 (x5 - (1 : Int))))).1, (ByteArray.append ((nth TS1 x1 (IntKind.wrap IntKind.i64 (x5 - (1 : Int))))).2 ((nth TS1 x1 (IntKind.wrap IntKind.i64 (x5 + (1 : Int))))).2)))) : Int)) (chk (nleI ((ByteArray.size (ByteArray.extract ((nth TS1 (List.set x1 (Int.toNat (IntKind.wrap IntKind.i64 (x5 - (1 : Int)))) (((nth TS1 x1 (IntKind.wrap IntKind.i64 (x5 - (1 : Int))))).1, (ByteArray.append ((nth TS1 x1 (IntKind.wrap IntKind.i64 (x5 - (1 : Int))))).2 ((nth TS1 x1 (IntKind.wrap IntKind.i64 (x5 + (1 : Int))))).2))) x5)).2 (Int.toNat ((ByteArray.size ((nth TS1 (List.set x1 (Int.toNat (IntKind.wrap IntKind.i64 (x5 - (1 : Int)))) (((nth TS1 x1 (IntKind.wrap IntKind.i64 (x5 - (1 : Int))))).1, (ByteArray.append ((nth TS1 x1 (IntKind.wrap IntKind.i64 (x5 - (1 : Int))))).2 ((nth TS1 x1 (IntKind.wrap IntKind.i64 (x5 + (1 : Int))))).2))) (IntKind.wrap IntKind.i64 (x5 + (1 : Int))))).2) : Int)) (Int.toNat ((ByteArray.size ((nth TS1 (List.set x1 (Int.toNat (IntKind.wrap IntKind.i64 (x5 - (1 : Int)))) (((nth TS1 x1 (IntKind.wrap IntKind.i64 (x5 - (1 : Int))))).1, (ByteArray.append ((nth TS1 x1 (IntKind.wrap IntKind.i64 (x5 - (1 : Int))))).2 ((nth TS1 x1 (IntKind.wrap IntKind.i64 (x5 + (1 : Int))))).2))) x5)).2) : Int)))) + (ByteArray.size ((nth TS1 (List.set x1 (Int.toNat (IntKind.wrap IntKind.i64 (x5 - (1 : Int)))) (((nth TS1 x1 (IntKind.wrap IntKind.i64 (x5 - (1 : Int))))).1, (ByteArray.append ((nth TS1 x1 (IntKind.wrap IntKind.i64 (x5 - (1 : Int))))).2 ((nth TS1 x1 (IntKind.wrap IntKind.i64 (x5 + (1 : Int))))).2))) (IntKind.wrap IntKind.i64 (x5 + (1 : Int))))).2)) 9223372036854775807) (chk (leI (0 : Int) x5) (chk (ltI x5 ((List.length (List.set x1 (Int.toNat (IntKind.wrap IntKind.i64 (x5 - (1 : Int)))) (((nth TS1 x1 (IntKind.wrap IntKind.i64 (x5 - (1 : Int))))).1, (ByteArray.append ((nth TS1 x1 (IntKind.wrap IntKind.i64 (x5 - (1 : Int))))).2 ((nth TS1 x1 (IntKind.wrap IntKind.i64 (x5 + (1 : Int))))).2)))) : Int)) (Option.bind (splice K (List.set (List.set x1 (Int.toNat (IntKind.wrap IntKind.i64 (x5 - (1 : Int)))) (((nth TS1 x1 (IntKind.wrap IntKind.i64 (x5 - (1 : Int))))).1, (ByteArray.append ((nth TS1 x1 (IntKind.wrap IntKind.i64 (x5 - (1 : Int))))).2 ((nth TS1 x1 (IntKind.wrap IntKind.i64 (x5 + (1 : Int))))).2))) (Int.toNat x5) (((nth TS1 (List.set x1 (Int.toNat (IntKind.wrap IntKind.i64 (x5 - (1 : Int)))) (((nth TS1 x1 (IntKind.wrap IntKind.i64 (x5 - (1 : Int))))).1, (ByteArray.append ((nth TS1 x1 (IntKind.wrap IntKind.i64 (x5 - (1 : Int))))).2 ((nth TS1 x1 (IntKind.wrap IntKind.i64 (x5 + (1 : Int))))).2))) x5)).1, (ByteArray.append (ByteArray.extract ((nth TS1 (List.set x1 (Int.toNat (IntKind.wrap IntKind.i64 (x5 - (1 : Int)))) (((nth TS1 x1 (IntKind.wrap IntKind.i64 (x5 - (1 : Int))))).1, (ByteArray.append ((nth TS1 x1 (IntKind.wrap IntKind.i64 (x5 - (1 : Int))))).2 ((nth TS1 x1 (IntKind.wrap IntKind.i64 (x5 + (1 : Int))))).2))) x5)).2 (Int.toNat ((ByteArray.size ((nth TS1 (List.set x1 (Int.toNat (IntKind.wrap IntKind.i64 (x5 - (1 : Int)))) (((nth TS1 x1 (IntKind.wrap IntKind.i64 (x5 - (1 : Int))))).1, (ByteArray.append ((nth TS1 x1 (IntKind.wrap IntKind.i64 (x5 - (1 : Int))))).2 ((nth TS1 x1 (IntKind.wrap IntKind.i64 (x5 + (1 : Int))))).2))) (IntKind.wrap IntKind.i64 (x5 + (1 : Int))))).2) : Int)) (Int.toNat ((ByteArray.size ((nth TS1 (List.set x1 (Int.toNat (IntKind.wrap IntKind.i64 (x5 - (1 : Int)))) (((nth TS1 x1 (IntKind.wrap IntKind.i64 (x5 - (1 : Int))))).1, (ByteArray.append ((nth TS1 x1 (IntKind.wrap IntKind.i64 (x5 - (1 : Int))))).2 ((nth TS1 x1 (IntKind.wrap IntKind.i64 (x5 + (1 : Int))))).2))) x5)).2) : Int))) ((nth TS1 (List.set x1 (Int.toNat (IntKind.wrap IntKind.i64 (x5 - (1 : Int)))) (((nth TS1 x1 (IntKind.wrap IntKind.i64 (x5 - (1 : Int))))).1, (ByteArray.append ((nth TS1 x1 (IntKind.wrap IntKind.i64 (x5 - (1 : Int))))).2 ((nth TS1 x1 (IntKind.wrap IntKind.i64 (x5 + (1 : Int))))).2))) (IntKind.wrap IntKind.i64 (x5 + (1 : Int))))).2))) (IntKind.wrap IntKind.i64 (x5 + (1 : Int))) (1 : Int) []) fun r2 =>
     DiffCleanupMerge_l1 K k i0 x0 r2 (IntKind.wrap IntKind.i64 (x5 + (1 : Int))) Bool.true))))))))))))))))))))
    (DiffCleanupMerge_l1 K k i0 x0 x1 (IntKind.wrap IntKind.i64 (x5 + (1 : Int))) x14)))))))))))
  (DiffCleanupMerge_l1 K k i0 x0 x1 (IntKind.wrap IntKind.i64 (x5 + (1 : Int))) x14) := by kernel_rfl
theorem New_eq (K : Nat) : New (K + 1) =
  some ((1000000000 : Int), ((4 : Int), ((1000 : Int), (4602678819172646912, ((4 : Int), ((32 : Int), 4602678819172646912)))))) := by kernel_rfl
theorem diffHalfMatch_eq (K : Nat) (x0 : Hp) (x1 : TS0.den) (x2 : Rf) (x3 : Rf) : diffHalfMatch (K + 1) x0 x1 x2 x3 =
  br (leI (x1).1 (0 : Int))
  (some (x0, Rf.nil))
  (diffHalfMatch_j0 K K (0 : Int) (x1 :: []) x2 x3 x0) := by kernel_rfl
theorem diffHalfMatch_j0_eq (K k : Nat) (i0 : Int) (x0 : List (TS0.den)) (x1 : Rf) (x2 : Rf) (h : Hp) : diffHalfMatch_j0 K (k + 1) i0 x0 x1 x2 h =
  br (ltI ((rlen x2) : Int) ((rlen x1) : Int))
  (diffHalfMatch_j1 K k i0 x0 x1 x2 x1 x2 h)
  (diffHalfMatch_j1 K k i0 x0 x1 x2 x2 x1 h) := by kernel_rfl
theorem diffHalfMatch_j1_eq (K k : Nat) (i0 : Int) (x0 : List (TS0.den)) (x1 : Rf) (x2 : Rf) (x7 : Rf) (x8 : Rf) (h : Hp) : diffHalfMatch_j1 K (k + 1) i0 x0 x1 x2 x7 x8 h =
  br (ltI ((rlen x7) : Int) (4 : Int))
  (diffHalfMatch_j2 K k i0 x0 x1 x2 x7 x8 Bool.true h)
  (diffHalfMatch_j2 K k i0 x0 x1 x2 x7 x8 (ltI (IntKind.wrap IntKind.i64 (((rlen x8) : Int) * (2 : Int))) ((rlen x7) : Int)) h) := by kernel_rfl
theorem diffHalfMatch_j2_eq (K k : Nat) (i0 : Int) (x0 : List (TS0.den)) (x1 : Rf) (x2 : Rf) (x7 : Rf) (x8 : Rf) (x36 : Bool) (h : Hp) : diffHalfMatch_j2 K (k + 1) i0 x0 x1 x2 x7 x8 x36 h =
  br x36
  (some (h, Rf.nil))
  (diffHalfMatch_j3 K k i0 x0 x1 x2 x7 x8 h) := by kernel_rfl
theorem diffHalfMatch_j3_eq (K k : Nat) (i0 : Int) (x0 : List (TS0.den)) (x1 : Rf) (x2 : Rf) (x7 : Rf) (x8 : Rf) (h : Hp) : diffHalfMatch_j3 K (k + 1) i0 x0 x1 x2 x7 x8 h =
  chk (faOkI Go.BinOp.quo (i2fI (IntKind.wrap IntKind.i64 (((rlen x7) : Int) + (3 : Int)))) 4616189618054758400) (chk (f2iOkI IntKind.i64 (faI Go.BinOp.quo (i2fI (IntKind.wrap IntKind.i64 (((rlen x7) : Int) + (3 : Int)))) 4616189618054758400)) (Option.bind (diffHalfMatchI K h x7 x8 (f2iI IntKind.i64 (faI Go.BinOp.quo (i2fI (IntKind.wrap IntKind.i64 (((rlen x7) : Int) + (3 : Int)))) 4616189618054758400))) fun r0 =>
  chk (faOkI Go.BinOp.quo (i2fI (IntKind.wrap IntKind.i64 (((rlen x7) : Int) + (1 : Int)))) 4611686018427387904) (chk (f2iOkI IntKind.i64 (faI Go.BinOp.quo (i2fI (IntKind.wrap IntKind.i64 (((rlen x7) : Int) + (1 : Int)))) 4611686018427387904)) (Option.bind (diffHalfMatchI K (r0).1 x7 x8 (f2iI IntKind.i64 (faI Go.BinOp.quo (i2fI (IntKind.wrap IntKind.i64 (((rlen x7) : Int) + (1 : Int)))) 4611686018427387904))) fun r1 =>
  chk (rsure (r0).2) (br (rnil (r0).2)
  (chk (rsure (r1).2) (diffHalfMatch_j4 K k x1 x2 (r0).2 (r1).2 (rnil (r1).2) (Hp.new (r1).1 (54 : TypeId) (.sr) [])))
  (diffHalfMatch_j4 K k x1 x2 (r0).2 (r1).2 Bool.false (Hp.new (r1).1 (54 : TypeId) (.sr) []))))))) := by kernel_rfl
theorem diffHalfMatch_j4_eq (K k : Nat) (x1 : Rf) (x2 : Rf) (x9 : Rf) (x10 : Rf) (x63 : Bool) (h : Hp) : diffHalfMatch_j4 K (k + 1) x1 x2 x9 x10 x63 h =
  br x63
  (some (h, Rf.nil))
  (chk (rsure x10) (br (rnil x10)
   (diffHalfMatch_j5 K k x1 x2 x9 h)
   (chk (rsure x9) (br (rnil x9)
    (diffHalfMatch_j5 K k x1 x2 x10 h)
    (chk (leI (0 : Int) (4 : Int)) (chk (ltI (4 : Int) ((rlen x9) : Int)) (Option.bind ((Hp.ld h (.sr) (radr 1 (Int.toNat (4 : Int)) x9))) fun r0 =>
     chk (leI (0 : Int) (4 : Int)) (chk (ltI (4 : Int) ((rlen x10) : Int)) (Option.bind ((Hp.ld h (.sr) (radr 1 (Int.toNat (4 : Int)) x10))) fun r1 =>
     br (ltI ((rlen r1) : Int) ((rlen r0) : Int))
     (diffHalfMatch_j5 K k x1 x2 x9 h)
     (diffHalfMatch_j5 K k x1 x2 x10 h)))))))))) := by kernel_rfl
theorem diffHalfMatch_j5_eq (K k : Nat) (x1 : Rf) (x2 : Rf) (x11 : Rf) (h : Hp) : diffHalfMatch_j5 K (k + 1) x1 x2 x11 h =
  br (ltI ((rlen x2) : Int) ((rlen x1) : Int))
  (some (h, x11))
  (diffHalfMatch_j6 K k x11 h) := by kernel_rfl
theorem diffHalfMatch_j6_eq (K k : Nat) (x11 : Rf) (h : Hp) : diffHalfMatch_j6 K (k + 1) x11 h =
  chk (leI (0 : Int) (2 : Int)) (chk (ltI (2 : Int) ((rlen x11) : Int)) (Option.bind ((Hp.ld h (.sr) (radr 1 (Int.toNat (2 : Int)) x11))) fun r0 =>
  chk (leI (0 : Int) (3 : Int)) (chk (ltI (3 : Int) ((rlen x11) : Int)) (Option.bind ((Hp.ld h (.sr) (radr 1 (Int.toNat (3 : Int)) x11))) fun r1 =>
  chk (leI (0 : Int) (0 : Int)) (chk (ltI (0 : Int) ((rlen x11) : Int)) (Option.bind ((Hp.ld h (.sr) (radr 1 (Int.toNat (0 : Int)) x11))) fun r2 =>
  chk (leI (0 : Int) (1 : Int)) (chk (ltI (1 : Int) ((rlen x11) : Int)) (Option.bind ((Hp.ld h (.sr) (radr 1 (Int.toNat (1 : Int)) x11))) fun r3 =>
  chk (leI (0 : Int) (4 : Int)) (chk (ltI (4 : Int) ((rlen x11) : Int)) (Option.bind ((Hp.ld h (.sr) (radr 1 (Int.toNat (4 : Int)) x11))) fun r4 =>
  some ((Hp.new h (54 : TypeId) (.sr) (r0 :: (r1 :: (r2 :: (r3 :: (r4 :: [])))))), (Rf.at (h).1 0 5)))))))))))) := by kernel_rfl
theorem CleanChars_eq (K : Nat) (x0 : ByteArray) (x1 : Int) : CleanChars (K + 1) x0 x1 =
  br (leI ((ByteArray.size x0) : Int) x1)
  (chk (nleI (List.length (runesI x0)) 70368744177664) (some (eqS (strOfRunes (runesI x0)) x0)))
  (some Bool.false) := by kernel_rfl
theorem DiffCleanupSemanticLossless_eq (K : Nat) (x0 : TS0.den) (x1 : List TS1.den) : DiffCleanupSemanticLossless (K + 1) x0 x1 =
  DiffCleanupSemanticLossless_l0 K K (0 : Int) (x0 :: []) x1 (1 : Int) := by kernel_rfl
theorem DiffCleanupSemanticLossless_l0_eq (K k : Nat) (i0 : Int) (x0 : List (TS0.den)) (x1 : List (TS1.den)) (x5 : Int) : DiffCleanupSemanticLossless_l0 K (k + 1) i0 x0 x1 x5 =
  br (ltI x5 (IntKind.wrap IntKind.i64 (((List.length x1) : Int) - (1 : Int))))
  (DiffCleanupSemanticLossless_j0 K k i0 x0 x1 x5)
  (some x1) := by kernel_rfl
theorem DiffCleanupSemanticLossless_j0_eq (K k : Nat) (i0 : Int) (x0 : List (TS0.den)) (x1 : List (TS1.den)) (x5 : Int) : DiffCleanupSemanticLossless_j0 K (k + 1) i0 x0 x1 x5 =
  chk (leI (0 : Int) (IntKind.wrap IntKind.i64 (x5 - (1 : Int)))) (chk (ltI (IntKind.wrap IntKind.i64 (x5 - (1 : Int))) ((List.length x1) : Int)) (br (eqI ((nth TS1 x1 (IntKind.wrap IntKind.i64 (x5 - (1 : Int))))).1 (0 : Int))
  (chk (leI (0 : Int) (IntKind.wrap IntKind.i64 (x5 + (1 : Int)))) (chk (ltI (IntKind.wrap IntKind.i64 (x5 + (1 : Int))) ((List.length x1) : Int)) (DiffCleanupSemanticLossless_j1 K k i0 x0 x1 x5 (eqI ((nth TS1 x1 (IntKind.wrap IntKind.i64 (x5 + (1 : Int))))).1 (0 : Int)))))
  (DiffCleanupSemanticLossless_j1 K k i0 x0 x1 x5 Bool.false))) := by kernel_rfl
theorem DiffCleanupSemanticLossless_j1_eq (K k : Nat) (i0 : Int) (x0 : List (TS0.den)) (x1 : List (TS1.den)) (x5 : Int) (x38 : Bool) : DiffCleanupSemanticLossless_j1 K (k + 1) i0 x0 x1 x5 x38 =
  br x38
  (chk (leI (0 : Int) (IntKind.wrap IntKind.i64 (x5 - (1 : Int)))) (chk (ltI (IntKind.wrap IntKind.i64 (x5 - (1 : Int))) ((List.length x1) : Int)) (chk (leI (0 : Int) x5) (chk (ltI x5 ((List.length x1) : Int)) (chk (leI (0 : Int) (IntKind.wrap IntKind.i64 (x5 + (1 : Int)))) (chk (ltI (IntKind.wrap IntKind.i64 (x5 + (1 : Int))) ((List.length x1) : Int)) (Option.bind (DiffCommonSuffix K (nth TS0 x0 i0) ((nth TS1 x1 (IntKind.wrap IntKind.i64 (x5 - (1 : Int))))).2 ((nth TS1 x1 x5)).2) fun r0 =>
   br (ltI (0 : Int) r0)
   (chk (leI (0 : Int) (IntKind.wrap IntKind.i64 (((ByteArray.size ((nth TS1 x1 x5)).2) : Int) - r0))) (chk (leI (IntKind.wrap IntKind.i64 (((ByteArray.size ((nth TS1 x1 x5)).2) : Int) - r0)) ((ByteArray.size ((nth TS1 x1 x5)).2) : Int)) (chk (leI ((ByteArray.size ((nth TS1 x1 x5)).2) : Int) ((ByteArray.size ((nth TS1 x1 x5)).2) : Int)) (chk (leI (0 : Int) (0 : Int)) (chk (leI (0 : Int) (IntKind.wrap IntKind.i64 (((ByteArray.size ((nth TS1 x1 (IntKind.wrap IntKind.i64 (x5 - (1 : Int))))).2) : Int) - r0))) (chk (leI (IntKind.wrap IntKind.i64 (((ByteArray.size ((nth TS1 x1 (IntKind.wrap IntKind.i64 (x5 - (1 : Int))))).2) : Int) - r0)) ((ByteArray.size ((nth TS1 x1 (IntKind.wrap IntKind.i64 (x5 - (1 : Int))))).2) : Int)) (chk (leI (0 : Int) (0 : Int)) (chk (leI (0 : Int) (IntKind.wrap IntKind.i64 (((ByteArray.size ((nth TS1 x1 x5)).2) : Int) - r0))) (chk (leI (IntKind.wrap IntKind.i64 (((ByteArray.size ((nth TS1 x1 x5)).2) : Int) - r0)) ((ByteArray.size ((nth TS1 x1 x5)).2) : Int)) (chk (nleI ((ByteArray.size (ByteArray.extract ((nth TS1 x1 x5)).2 (Int.toNat (IntKind.wrap IntKind.i64 (((ByteArray.size ((nth TS1 x1 x5)).2) : Int) - r0))) (Int.toNat ((ByteArray.size ((nth TS1 x1 x5)).2) : Int)))) + (ByteArray.size (ByteArray.extract ((nth TS1 x1 x5)).2 (Int.toNat (0 : Int)) (Int.toNat (IntKind.wrap IntKind.i64 (((ByteArray.size ((nth TS1 x1 x5)).2) : Int) - r0)))))) 9223372036854775807) (chk (nleI ((ByteArray.size (ByteArray.extract ((nth TS1 x1 x5)).2 (Int.toNat (IntKind.wrap IntKind.i64 (((ByteArray.size ((nth TS1 x1 x5)).2) : Int) - r0))) (Int.toNat ((ByteArray.size ((nth TS1 x1 x5)).2) : Int)))) + (ByteArray.size ((nth TS1 x1 (IntKind.wrap IntKind.i64 (x5 + (1 : Int))))).2)) 9223372036854775807) (DiffCleanupSemanticLossless_j2 K k i0 x0 x1 x5 (ByteArray.extract ((nth TS1 x1 (IntKind.wrap IntKind.i64 (x5 - (1 : Int))))).2 (Int.toNat (0 : Int)) (Int.toNat (IntKind.wrap IntKind.i64 (((ByteArray.size ((nth TS1 x1 (IntKind.wrap IntKind.i64 (x5 - (1 : Int))))).2) : Int) - r0)))) (ByteArray.append (ByteArray.extract ((nth TS1 x1 x5)).2 (Int.toNat (IntKind.wrap IntKind.i64 (((ByteArray.size ((nth TS1 x1 x5)).2) : Int) - r0))) (Int.toNat ((ByteArray.size ((nth TS1 x1 x5)).2) : Int))) (ByteArray.extract ((nth TS1 x1 x5)).2 (Int.toNat (0 : Int)) (Int.toNat (IntKind.wrap IntKind.i64 (((ByteArray.size ((nth TS1 x1 x5)).2) : Int) - r0))))) (ByteArray.append (ByteArray.extract ((nth TS1 x1 x5)).2 (Int.toNat (IntKind.wrap IntKind.i64 (((ByteArray.size ((nth TS1 x1 x5)).2) : Int) - r0))) (Int.toNat ((ByteArray.size ((nth TS1 x1 x5)).2) : Int))) ((nth TS1 x1 (IntKind.wrap IntKind.i64 (x5 + (1 : Int))))).2)))))))))))))
   (DiffCleanupSemanticLossless_j2 K k i0 x0 x1 x5 ((nth TS1 x1 (IntKind.wrap IntKind.i64 (x5 - (1 : Int))))).2 ((nth TS1 x1 x5)).2 ((nth TS1 x1 (IntKind.wrap IntKind.i64 (x5 + (1 : Int))))).2))))))))
  (DiffCleanupSemanticLossless_l0 K k i0 x0 x1 (IntKind.wrap IntKind.i64 (x5 + (1 : Int)))) := by kernel_rfl
theorem DiffCleanupSemanticLossless_j2_eq (K k : Nat) (i0 : Int) (x0 : List (TS0.den)) (x1 : List (TS1.den)) (x5 : Int) (x6 : ByteArray) (x7 : ByteArray) (x8 : ByteArray) : DiffCleanupSemanticLossless_j2 K (k + 1) i0 x0 x1 x5 x6 x7 x8 =
  Option.bind (diffCleanupSemanticScore K x6 x7) fun r0 =>
  Option.bind (diffCleanupSemanticScore K x7 x8) fun r1 =>
  DiffCleanupSemanticLossless_l1 K k i0 x0 x1 x5 x6 x7 x8 x6 x7 x8 (IntKind.wrap IntKind.i64 (r0 + r1)) := by kernel_rfl
theorem DiffCleanupSemanticLossless_l1_eq (K k : Nat) (i0 : Int) (x0 : List (TS0.den)) (x1 : List (TS1.den)) (x5 : Int) (x6 : ByteArray) (x7 : ByteArray) (x8 : ByteArray) (x11 : ByteArray) (x12 : ByteArray) (x13 : ByteArray) (x14 : Int) : DiffCleanupSemanticLossless_l1 K (k + 1) i0 x0 x1 x5 x6 x7 x8 x11 x12 x13 x14 =
  br (Bool.not (eqI ((ByteArray.size x7) : Int) (0 : Int)))
  (br (Bool.not (eqI ((ByteArray.size x8) : Int) (0 : Int)))
   (DiffCleanupSemanticLossless_j3 K k i0 x0 x1 x5 x6 x7 x8 x11 x12 x13 x14)
   (DiffCleanupSemanticLossless_j4 K k i0 x0 x1 x5 x11 x12 x13))
  (DiffCleanupSemanticLossless_j4 K k i0 x0 x1 x5 x11 x12 x13) := by kernel_rfl
theorem DiffCleanupSemanticLossless_j3_eq (K k : Nat) (i0 : Int) (x0 : List (TS0.den)) (x1 : List (TS1.den)) (x5 : Int) (x6 : ByteArray) (x7 : ByteArray) (x8 : ByteArray) (x11 : ByteArray) (x12 : ByteArray) (x13 : ByteArray) (x14 : Int) : DiffCleanupSemanticLossless_j3 K (k + 1) i0 x0 x1 x5 x6 x7 x8 x11 x12 x13 x14 =
  Option.bind (DecodeRuneInString K x7) fun r0 =>
  br (ltI ((ByteArray.size x8) : Int) (r0).2)
  (DiffCleanupSemanticLossless_j4 K k i0 x0 x1 x5 x11 x12 x13)
  (chk (leI (0 : Int) (0 : Int)) (chk (leI (0 : Int) (r0).2) (chk (leI (r0).2 ((ByteArray.size x7) : Int)) (chk (leI (0 : Int) (0 : Int)) (chk (leI (0 : Int) (r0).2) (chk (leI (r0).2 ((ByteArray.size x8) : Int)) (br (Bool.not (eqS (ByteArray.extract x7 (Int.toNat (0 : Int)) (Int.toNat (r0).2)) (ByteArray.extract x8 (Int.toNat (0 : Int)) (Int.toNat (r0).2))))
   (DiffCleanupSemanticLossless_j4 K k i0 x0 x1 x5 x11 x12 x13)
   (DiffCleanupSemanticLossless_j5 K k i0 x0 x1 x5 x6 x7 x8 x11 x12 x13 x14 (r0).2)))))))) := by kernel_rfl
theorem DiffCleanupSemanticLossless_j4_eq (K k : Nat) (i0 : Int) (x0 : List (TS0.den)) (x1 : List (TS1.den)) (x5 : Int) (x11 : ByteArray) (x12 : ByteArray) (x13 : ByteArray) : DiffCleanupSemanticLossless_j4 K (k + 1) i0 x0 x1 x5 x11 x12 x13 =
  chk (leI (0 : Int) (IntKind.wrap IntKind.i64 (x5 - (1 : Int)))) (chk (ltI (IntKind.wrap IntKind.i64 (x5 - (1 : Int))) ((List.length x1) : Int)) (br (Bool.not (eqS ((nth TS1 x1 (IntKind.wrap IntKind.i64 (x5 - (1 : Int))))).2 x11))
  (br (Bool.not (eqI ((ByteArray.size x11) : Int) (0 : Int)))
   (chk (leI (0 : Int) (IntKind.wrap IntKind.i64 (x5 - (1 : Int)))) (chk (ltI (IntKind.wrap IntKind.i64 (x5 - (1 : Int))) ((List.length x1) : Int)) (DiffCleanupSemanticLossless_j6 K k i0 x0 (List.set x1 (Int.toNat (IntKind.wrap IntKind.i64 (x5 - (1 : Int)))) (((nth TS1 x1 (IntKind.wrap IntKind.i64 (x5 - (1 : Int))))).1, x11)) x5 x12 x13)))
   (Option.bind (splice K x1 (IntKind.wrap IntKind.i64 (x5 - (1 : Int))) (1 : Int) []) fun r0 =>
    DiffCleanupSemanticLossless_j6 K k i0 x0 r0 (IntKind.wrap IntKind.i64 (x5 - (1 : Int))) x12 x13))
  (DiffCleanupSemanticLossless_l0 K k i0 x0 x1 (IntKind.wrap IntKind.i64 (x5 + (1 : Int)))))) := by kernel_rfl
theorem DiffCleanupSemanticLossless_j5_eq (K k : Nat) (i0 : Int) (x0 : List (TS0.den)) (x1 : List (TS1.den)) (x5 : Int) (x6 : ByteArray) (x7 : ByteArray) (x8 : ByteArray) (x11 : ByteArray) (x12 : ByteArray) (x13 : ByteArray) (x14 : Int) (x16 : Int) : DiffCleanupSemanticLossless_j5 K (k + 1) i0 x0 x1 x5 x6 x7 x8 x11 x12 x13 x14 x16 =
  chk (leI (0 : Int) (0 : Int)) (chk (leI (0 : Int) x16) (chk (leI x16 ((ByteArray.size x7) : Int)) (chk (nleI ((ByteArray.size x6) + (ByteArray.size (ByteArray.extract x7 (Int.toNat (0 : Int)) (Int.toNat x16)))) 9223372036854775807) (chk (leI (0 : Int) x16) (chk (leI x16 ((ByteArray.size x7) : Int)) (chk (leI ((ByteArray.size x7) : Int) ((ByteArray.size x7) : Int)) (chk (leI (0 : Int) (0 : Int)) (chk (leI (0 : Int) x16) (chk (leI x16 ((ByteArray.size x8) : Int)) (chk (nleI ((ByteArray.size (ByteArray.extract x7 (Int.toNat x16) (Int.toNat ((ByteArray.size x7) : Int)))) + (ByteArray.size (ByteArray.extract x8 (Int.toNat (0 : Int)) (Int.toNat x16)))) 9223372036854775807) (chk (leI (0 : Int) x16) (chk (leI x16 ((ByteArray.size x8) : Int)) (chk (leI ((ByteArray.size x8) : Int) ((ByteArray.size x8) : Int)) (Option.bind (diffCleanupSemanticScore K (ByteArray.append x6 (ByteArray.extract x7 (Int.toNat (0 : Int)) (Int.toNat x16))) (ByteArray.append (ByteArray.extract x7 (Int.toNat x16) (Int.toNat ((ByteArray.size x7) : Int))) (ByteArray.extract x8 (Int.toNat (0 : Int)) (Int.toNat x16)))) fun r0 =>
  Option.bind (diffCleanupSemanticScore K (ByteArray.append (ByteArray.extract x7 (Int.toNat x16) (Int.toNat ((ByteArray.size x7) : Int))) (ByteArray.extract x8 (Int.toNat (0 : Int)) (Int.toNat x16))) (ByteArray.extract x8 (Int.toNat x16) (Int.toNat ((ByteArray.size x8) : Int)))) fun r1 =>
  br (leI x14 (IntKind.wrap IntKind.i64 (r0 + r1)))
  (DiffCleanupSemanticLossless_l1 K k i0 x0 x1 x5 (ByteArray.append x6 (ByteArray.extract x7 (Int.toNat (0 : Int)) (Int.toNat x16))) (ByteArray.append (ByteArray.extract x7 (Int.toNat x16) (Int.toNat ((ByteArray.size x7) : Int))) (ByteArray.extract x8 (Int.toNat (0 : Int)) (Int.toNat x16))) (ByteArray.extract x8 (Int.toNat x16) (Int.toNat ((ByteArray.size x8) : Int))) (ByteArray.append x6 (ByteArray.extract x7 (Int.toNat (0 : Int)) (Int.toNat x16))) (ByteArray.append (ByteArray.extract x7 (Int.toNat x16) (Int.toNat ((ByteArray.size x7) : Int))) (ByteArray.extract x8 (Int.toNat (0 : Int)) (Int.toNat x16))) (ByteArray.extract x8 (Int.toNat x16) (Int.toNat ((ByteArray.size x8) : Int))) (IntKind.wrap IntKind.i64 (r0 + r1)))
  (DiffCleanupSemanticLossless_l1 K k i0 x0 x1 x5 (ByteArray.append x6 (ByteArray.extract x7 (Int.toNat (0 : Int)) (Int.toNat x16))) (ByteArray.append (ByteArray.extract x7 (Int.toNat x16) (Int.toNat ((ByteArray.size x7) : Int))) (ByteArray.extract x8 (Int.toNat (0 : Int)) (Int.toNat x16))) (ByteArray.extract x8 (Int.toNat x16) (Int.toNat ((ByteArray.size x8) : Int))) x11 x12 x13 x14))))))))))))))) := by kernel_rfl
theorem DiffCleanupSemanticLossless_j6_eq (K k : Nat) (i0 : Int) (x0 : List (TS0.den)) (x1 : List (TS1.den)) (x5 : Int) (x12 : ByteArray) (x13 : ByteArray) : DiffCleanupSemanticLossless_j6 K (k + 1) i0 x0 x1 x5 x12 x13 =
  chk (leI (0 : Int) x5) (chk (ltI x5 ((List.length x1) : Int)) (br (Bool.not (eqI ((ByteArray.size x13) : Int) (0 : Int)))
  (chk (leI (0 : Int) (IntKind.wrap IntKind.i64 (x5 + (1 : Int)))) (chk (ltI (IntKind.wrap IntKind.i64 (x5 + (1 : Int))) ((List.length (List.set x1 (Int.toNat x5) (((nth TS1 x1 x5)).1, x12))) : Int)) (DiffCleanupSemanticLossless_l0 K k i0 x0 (List.set (List.set x1 (Int.toNat x5) (((nth TS1 x1 x5)).1, x12)) (Int.toNat (IntKind.wrap IntKind.i64 (x5 + (1 : Int)))) (((nth TS1 (List.set x1 (Int.toNat x5) (((nth TS1 x1 x5)).1, x12)) (IntKind.wrap IntKind.i64 (x5 + (1 : Int))))).1, x13)) (IntKind.wrap IntKind.i64 (x5 + (1 : Int))))))
  (chk (leI (0 : Int) (0 : Int)) (chk (leI (0 : Int) (IntKind.wrap IntKind.i64 (x5 + (1 : Int)))) (chk (leI (IntKind.wrap IntKind.i64 (x5 + (1 : Int))) ((List.length (List.set x1 (Int.toNat x5) (((nth TS1 x1 x5)).1, x12))) : Int)) (chk (leI (0 : Int) (IntKind.wrap IntKind.i64 (x5 + (2 : Int)))) (chk (leI (IntKind.wrap IntKind.i64 (x5 + (2 : Int))) ((List.length (List.set x1 (Int.toNat x5) (((nth TS1 x1 x5)).1, x12))) : Int)) (chk (leI ((List.length (List.set x1 (Int.toNat x5) (((nth TS1 x1 x5)).1, x12))) : Int) ((List.length (List.set x1 (Int.toNat x5) (((nth TS1 x1 x5)).1, x12))) : Int)) (chk (eqI (0 : Int) (0 : Int)) (chk (ltI ((IntKind.wrap IntKind.i64 (x5 + (1 : Int))) + ((List.length (List.take ((Int.toNat ((List.length (List.set x1 (Int.toNat x5) (((nth TS1 x1 x5)).1, x12))) : Int)) - (Int.toNat (IntKind.wrap IntKind.i64 (x5 + (2 : Int))))) (List.drop (Int.toNat (IntKind.wrap IntKind.i64 (x5 + (2 : Int)))) (List.set x1 (Int.toNat x5) (((nth TS1 x1 x5)).1, x12))))) : Int)) (1000000000000 : Int)) (DiffCleanupSemanticLossless_l0 K k i0 x0 ((List.take (Int.toNat (IntKind.wrap IntKind.i64 (x5 + (1 : Int)))) (List.set x1 (Int.toNat x5) (((nth TS1 x1 x5)).1, x12))) ++ (List.take ((Int.toNat ((List.length (List.set x1 (Int.toNat x5) (((nth TS1 x1 x5)).1, x12))) : Int)) - (Int.toNat (IntKind.wrap IntKind.i64 (x5 + (2 : Int))))) (List.drop (Int.toNat (IntKind.wrap IntKind.i64 (x5 + (2 : Int)))) (List.set x1 (Int.toNat x5) (((nth TS1 x1 x5)).1, x12))))) (IntKind.wrap IntKind.i64 ((IntKind.wrap IntKind.i64 (x5 - (1 : Int))) + (1 : Int)))))))))))))) := by kernel_rfl
theorem splice_eq (K : Nat) (x0 : List TS1.den) (x1 : Int) (x2 : Int) (x3 : List TS1.den) : splice (K + 1) x0 x1 x2 x3 =
  br (eqI ((List.length x3) : Int) x2)
  (chk (leI (0 : Int) x1) (chk (leI x1 ((List.length x0) : Int)) (chk (leI ((List.length x0) : Int) ((List.length x0) : Int)) (some (cpL x0 x3 (Int.toNat x1) (Int.toNat (((List.length x0) : Int) - x1)))))))
  (splice_j0 K K x0 x1 x2 x3) := by kernel_rfl
theorem splice_j0_eq (K k : Nat) (x0 : List (TS1.den)) (x1 : Int) (x2 : Int) (x3 : List (TS1.den)) : splice_j0 K (k + 1) x0 x1 x2 x3 =
  br (ltI ((List.length x3) : Int) x2)
  (chk (leI (0 : Int) x1) (chk (leI x1 ((List.length x0) : Int)) (chk (leI ((List.length x0) : Int) ((List.length x0) : Int)) (chk (leI (0 : Int) (IntKind.wrap IntKind.i64 (x1 + ((List.length x3) : Int)))) (chk (leI (IntKind.wrap IntKind.i64 (x1 + ((List.length x3) : Int))) ((List.length (cpL x0 x3 (Int.toNat x1) (Int.toNat (((List.length x0) : Int) - x1)))) : Int)) (chk (leI ((List.length (cpL x0 x3 (Int.toNat x1) (Int.toNat (((List.length x0) : Int) - x1)))) : Int) ((List.length (cpL x0 x3 (Int.toNat x1) (Int.toNat (((List.length x0) : Int) - x1)))) : Int)) (chk (leI (0 : Int) (IntKind.wrap IntKind.i64 (x1 + x2))) (chk (leI (IntKind.wrap IntKind.i64 (x1 + x2)) ((List.length (cpL x0 x3 (Int.toNat x1) (Int.toNat (((List.length x0) : Int) - x1)))) : Int)) (chk (leI ((List.length (cpL x0 x3 (Int.toNat x1) (Int.toNat (((List.length x0) : Int) - x1)))) : Int) ((List.length (cpL x0 x3 (Int.toNat x1) (Int.toNat (((List.length x0) : Int) - x1)))) : Int)) (chk (leI (0 : Int) (IntKind.wrap IntKind.i64 ((IntKind.wrap IntKind.i64 (((List.length (cpL (cpL x0 x3 (Int.toNat x1) (Int.toNat (((List.length x0) : Int) - x1))) (List.take ((Int.toNat ((List.length (cpL x0 x3 (Int.toNat x1) (Int.toNat (((List.length x0) : Int) - x1)))) : Int)) - (Int.toNat (IntKind.wrap IntKind.i64 (x1 + x2)))) (List.drop (Int.toNat (IntKind.wrap IntKind.i64 (x1 + x2))) (cpL x0 x3 (Int.toNat x1) (Int.toNat (((List.length x0) : Int) - x1))))) (Int.toNat (IntKind.wrap IntKind.i64 (x1 + ((List.length x3) : Int)))) (Int.toNat (((List.length (cpL x0 x3 (Int.toNat x1) (Int.toNat (((List.length x0) : Int) - x1)))) : Int) - (IntKind.wrap IntKind.i64 (x1 + ((List.length x3) : Int))))))) : Int) - x2)) + ((List.length x3) : Int)))) (chk (leI (IntKind.wrap IntKind.i64 ((IntKind.wrap IntKind.i64 (((List.length (cpL (cpL x0 x3 (Int.toNat x1) (Int.toNat (((List.length x0) : Int) - x1))) (List.take ((Int.toNat ((List.length (cpL x0 x3 (Int.toNat x1) (Int.toNat (((List.length x0) : Int) - x1)))) : Int)) - (Int.toNat (IntKind.wrap IntKind.i64 (x1 + x2)))) (List.drop (Int.toNat (IntKind.wrap IntKind.i64 (x1 + x2))) (cpL x0 x3 (Int.toNat x1) (Int.toNat (((List.length x0) : Int) - x1))))) (Int.toNat (IntKind.wrap IntKind.i64 (x1 + ((List.length x3) : Int)))) (Int.toNat (((List.length (cpL x0 x3 (Int.toNat x1) (Int.toNat (((List.length x0) : Int) - x1)))) : Int) - (IntKind.wrap IntKind.i64 (x1 + ((List.length x3) : Int))))))) : Int) - x2)) + ((List.length x3) : Int))) ((List.length (cpL (cpL x0 x3 (Int.toNat x1) (Int.toNat (((List.length x0) : Int) - x1))) (List.take ((Int.toNat ((List.length (cpL x0 x3 (Int.toNat x1) (Int.toNat (((List.length x0) : Int) - x1)))) : Int)) - (Int.toNat (IntKind.wrap IntKind.i64 (x1 + x2)))) (List.drop (Int.toNat (IntKind.wrap IntKind.i64 (x1 + x2))) (cpL x0 x3 (Int.toNat x1) (Int.toNat (((List.length x0) : Int) - x1))))) (Int.toNat (IntKind.wrap IntKind.i64 (x1 + ((List.length x3) : Int)))) (Int.toNat (((List.length (cpL x0 x3 (Int.toNat x1) (Int.toNat (((List.length x0) : Int) - x1)))) : Int) - (IntKind.wrap IntKind.i64 (x1 + ((List.length x3) : Int))))))) : Int)) (chk (leI ((List.length (cpL (cpL x0 x3 (Int.toNat x1) (Int.toNat (((List.length x0) : Int) - x1))) (List.take ((Int.toNat ((List.length (cpL x0 x3 (Int.toNat x1) (Int.toNat (((List.length x0) : Int) - x1)))) : Int)) - (Int.toNat (IntKind.wrap IntKind.i64 (x1 + x2)))) (List.drop (Int.toNat (IntKind.wrap IntKind.i64 (x1 + x2))) (cpL x0 x3 (Int.toNat x1) (Int.toNat (((List.length x0) : Int) - x1))))) (Int.toNat (IntKind.wrap IntKind.i64 (x1 + ((List.length x3) : Int)))) (Int.toNat (((List.length (cpL x0 x3 (Int.toNat x1) (Int.toNat (((List.length x0) : Int) - x1)))) : Int) - (IntKind.wrap IntKind.i64 (x1 + ((List.length x3) : Int))))))) : Int) ((List.length (cpL (cpL x0 x3 (Int.toNat x1) (Int.toNat (((List.length x0) : Int) - x1))) (List.take ((Int.toNat ((List.length (cpL x0 x3 (Int.toNat x1) (Int.toNat (((List.length x0) : Int) - x1)))) : Int)) - (Int.toNat (IntKind.wrap IntKind.i64 (x1 + x2)))) (List.drop (Int.toNat (IntKind.wrap IntKind.i64 (x1 + x2))) (cpL x0 x3 (Int.toNat x1) (Int.toNat (((List.length x0) : Int) - x1))))) (Int.toNat (IntKind.wrap IntKind.i64 (x1 + ((List.length x3) : Int)))) (Int.toNat (((List.length (cpL x0 x3 (Int.toNat x1) (Int.toNat (((List.length x0) : Int) - x1)))) : Int) - (IntKind.wrap IntKind.i64 (x1 + ((List.length x3) : Int))))))) : Int)) (splice_l0 K k (cpL (cpL x0 x3 (Int.toNat x1) (Int.toNat (((List.length x0) : Int) - x1))) (List.take ((Int.toNat ((List.length (cpL x0 x3 (Int.toNat x1) (Int.toNat (((List.length x0) : Int) - x1)))) : Int)) - (Int.toNat (IntKind.wrap IntKind.i64 (x1 + x2)))) (List.drop (Int.toNat (IntKind.wrap IntKind.i64 (x1 + x2))) (cpL x0 x3 (Int.toNat x1) (Int.toNat (((List.length x0) : Int) - x1))))) (Int.toNat (IntKind.wrap IntKind.i64 (x1 + ((List.length x3) : Int)))) (Int.toNat (((List.length (cpL x0 x3 (Int.toNat x1) (Int.toNat (((List.length x0) : Int) - x1)))) : Int) - (IntKind.wrap IntKind.i64 (x1 + ((List.length x3) : Int)))))) (IntKind.wrap IntKind.i64 ((IntKind.wrap IntKind.i64 (((List.length (cpL (cpL x0 x3 (Int.toNat x1) (Int.toNat (((List.length x0) : Int) - x1))) (List.take ((Int.toNat ((List.length (cpL x0 x3 (Int.toNat x1) (Int.toNat (((List.length x0) : Int) - x1)))) : Int)) - (Int.toNat (IntKind.wrap IntKind.i64 (x1 + x2)))) (List.drop (Int.toNat (IntKind.wrap IntKind.i64 (x1 + x2))) (cpL x0 x3 (Int.toNat x1) (Int.toNat (((List.length x0) : Int) - x1))))) (Int.toNat (IntKind.wrap IntKind.i64 (x1 + ((List.length x3) : Int)))) (Int.toNat (((List.length (cpL x0 x3 (Int.toNat x1) (Int.toNat (((List.length x0) : Int) - x1)))) : Int) - (IntKind.wrap IntKind.i64 (x1 + ((List.length x3) : Int))))))) : Int) - x2)) + ((List.length x3) : Int))) (IntKind.wrap IntKind.i64 ((IntKind.wrap IntKind.i64 (((List.length (cpL (cpL x0 x3 (Int.toNat x1) (Int.toNat (((List.length x0) : Int) - x1))) (List.take ((Int.toNat ((List.length (cpL x0 x3 (Int.toNat x1) (Int.toNat (((List.length x0) : Int) - x1)))) : Int)) - (Int.toNat (IntKind.wrap IntKind.i64 (x1 + x2)))) (List.drop (Int.toNat (IntKind.wrap IntKind.i64 (x1 + x2))) (cpL x0 x3 (Int.toNat x1) (Int.toNat (((List.length x0) : Int) - x1))))) (Int.toNat (IntKind.wrap IntKind.i64 (x1 + ((List.length x3) : Int)))) (Int.toNat (((List.length (cpL x0 x3 (Int.toNat x1) (Int.toNat (((List.length x0) : Int) - x1)))) : Int) - (IntKind.wrap IntKind.i64 (x1 + ((List.length x3) : Int))))))) : Int) - x2)) + ((List.length x3) : Int))) ((List.length (cpL (cpL x0 x3 (Int.toNat x1) (Int.toNat (((List.length x0) : Int) - x1))) (List.take ((Int.toNat ((List.length (cpL x0 x3 (Int.toNat x1) (Int.toNat (((List.length x0) : Int) - x1)))) : Int)) - (Int.toNat (IntKind.wrap IntKind.i64 (x1 + x2)))) (List.drop (Int.toNat (IntKind.wrap IntKind.i64 (x1 + x2))) (cpL x0 x3 (Int.toNat x1) (Int.toNat (((List.length x0) : Int) - x1))))) (Int.toNat (IntKind.wrap IntKind.i64 (x1 + ((List.length x3) : Int)))) (Int.toNat (((List.length (cpL x0 x3 (Int.toNat x1) (Int.toNat (((List.length x0) : Int) - x1)))) : Int) - (IntKind.wrap IntKind.i64 (x1 + ((List.length x3) : Int))))))) : Int) (((List.length (cpL (cpL x0 x3 (Int.toNat x1) (Int.toNat (((List.length x0) : Int) - x1))) (List.take ((Int.toNat ((List.length (cpL x0 x3 (Int.toNat x1) (Int.toNat (((List.length x0) : Int) - x1)))) : Int)) - (Int.toNat (IntKind.wrap IntKind.i64 (x1 + x2)))) (List.drop (Int.toNat (IntKind.wrap IntKind.i64 (x1 + x2))) (cpL x0 x3 (Int.toNat x1) (Int.toNat (((List.length x0) : Int) - x1))))) (Int.toNat (IntKind.wrap IntKind.i64 (x1 + ((List.length x3) : Int)))) (Int.toNat (((List.length (cpL x0 x3 (Int.toNat x1) (Int.toNat (((List.length x0) : Int) - x1)))) : Int) - (IntKind.wrap IntKind.i64 (x1 + ((List.length x3) : Int))))))) : Int) - (IntKind.wrap IntKind.i64 ((IntKind.wrap IntKind.i64 (((List.length (cpL (cpL x0 x3 (Int.toNat x1) (Int.toNat (((List.length x0) : Int) - x1))) (List.take ((Int.toNat ((List.length (cpL x0 x3 (Int.toNat x1) (Int.toNat (((List.length x0) : Int) - x1)))) : Int)) - (Int.toNat (IntKind.wrap IntKind.i64 (x1 + x2)))) (List.drop (Int.toNat (IntKind.wrap IntKind.i64 (x1 + x2))) (cpL x0 x3 (Int.toNat x1) (Int.toNat (((List.length x0) : Int) - x1))))) (Int.toNat (IntKind.wrap IntKind.i64 (x1 + ((List.length x3) : Int)))) (Int.toNat (((List.length (cpL x0 x3 (Int.toNat x1) (Int.toNat (((List.length x0) : Int) - x1)))) : Int) - (IntKind.wrap IntKind.i64 (x1 + ((List.length x3) : Int))))))) : Int) - x2)) + ((List.length x3) : Int)))) (0 : Int))))))))))))))
  (splice_j1 K k x0 x1 x2 x3) := by kernel_rfl
end Go.Proofs.YtblmeoigjbnmiaaDoor.E
