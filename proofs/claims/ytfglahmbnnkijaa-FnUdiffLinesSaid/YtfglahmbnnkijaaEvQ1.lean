import Derived.Test.YtfglahmbnnkijaaEvT
/- Written by a program of this session (wip/ev4dev): what the functions' places evaluate to. Not trusted: Lean checks it. -/
set_option linter.unusedVariables false
namespace Go.Proofs.Ytfglahmbnnkijaa.E
open Go.Ev
theorem udiff_splitLines_j1_eq (K k : Nat) (x0 : ByteArray) (x4 : List (ByteArray)) (x5 : Rf) (x6 : Int) (h : Hp) : udiff_splitLines_j1 K (k + 1) x0 x4 x5 x6 h =
  br (ltI x6 ((ByteArray.size x0) : Int))
  (chk (leI (0 : Int) x6) (chk (leI x6 ((ByteArray.size x0) : Int)) (chk (leI ((ByteArray.size x0) : Int) ((ByteArray.size x0) : Int)) (chk (ltI (((List.length x4) : Int) + ((List.length ((ByteArray.extract x0 (Int.toNat x6) (Int.toNat ((ByteArray.size x0) : Int))) :: [])) : Int)) (1000000000000 : Int)) (Option.bind ((Hp.cs (Hp.new h (3 : TypeId) (.p (.int (.i64))) (((ByteArray.size x0) : Int) :: [])) 1 (Rf.at (h).1 0 1))) fun r0 =>
   chk (ltI (((rlen x5) : Int) + ((r0).2 : Int)) (1000000000000 : Int)) (Option.bind ((Hp.app (Hp.new h (3 : TypeId) (.p (.int (.i64))) (((ByteArray.size x0) : Int) :: [])) (3 : TypeId) 1 (r0).1 (r0).2 x5)) fun r1 =>
   some ((r1).2, ((x4 ++ ((ByteArray.extract x0 (Int.toNat x6) (Int.toNat ((ByteArray.size x0) : Int))) :: [])), (r1).1))))))))
  (some (h, (x4, x5))) := by kernel_rfl
theorem DiffLines_eq (K : Nat) (x0 : Hp) (x1 : Rf) (x2 : Rf) : DiffLines (K + 1) x0 x1 x2 =
  Option.bind (diff K x0 (If.two 111 x1 x2)) fun r0 =>
  some ((r0).1, (r0).2) := by kernel_rfl
theorem udiff_zzJoin_eq (K : Nat) (x0 : List ByteArray) (x1 : ByteArray) : udiff_zzJoin (K + 1) x0 x1 =
  udiff_zzJoin_l0 K K x1 [] x0 ((List.length x0) : Int) (0 : Int) := by kernel_rfl
theorem udiff_zzJoin_l0_eq (K k : Nat) (x1 : ByteArray) (x5 : List (Int)) (x8 : List (ByteArray)) (x9 : Int) (x10 : Int) : udiff_zzJoin_l0 K (k + 1) x1 x5 x8 x9 x10 =
  br (ltI x10 x9)
  (udiff_zzJoin_j0 K k x1 x5 x8 x9 x10)
  (some (strOfBytes x5)) := by kernel_rfl
theorem udiff_zzJoin_j0_eq (K k : Nat) (x1 : ByteArray) (x5 : List (Int)) (x8 : List (ByteArray)) (x9 : Int) (x10 : Int) : udiff_zzJoin_j0 K (k + 1) x1 x5 x8 x9 x10 =
  chk (leI (0 : Int) x10) (chk (ltI x10 ((List.length x8) : Int)) (br (ltI (0 : Int) x10)
  (chk (ltI (((List.length x5) : Int) + ((List.length (bytesI x1)) : Int)) (1000000000000 : Int)) (udiff_zzJoin_j1 K k x1 (x5 ++ (bytesI x1)) (nth (.str) x8 x10) x8 x9 x10))
  (udiff_zzJoin_j1 K k x1 x5 (nth (.str) x8 x10) x8 x9 x10))) := by kernel_rfl
theorem udiff_zzJoin_j1_eq (K k : Nat) (x1 : ByteArray) (x5 : List (Int)) (x7 : ByteArray) (x8 : List (ByteArray)) (x9 : Int) (x10 : Int) : udiff_zzJoin_j1 K (k + 1) x1 x5 x7 x8 x9 x10 =
  chk (ltI (((List.length x5) : Int) + ((List.length (bytesI x7)) : Int)) (1000000000000 : Int)) (udiff_zzJoin_l0 K k x1 (x5 ++ (bytesI x7)) x8 x9 (IntKind.wrap IntKind.i64 (x10 + (1 : Int)))) := by kernel_rfl
theorem diff_eq (K : Nat) (x0 : Hp) (x1 : If) : diff (K + 1) x0 x1 =
  Option.bind (compute K x0 x1 (79, []) (50 : Int)) fun r0 =>
  some ((r0).1, ((r0).2).1) := by kernel_rfl
theorem compute_eq (K : Nat) (x0 : Hp) (x1 : If) (x2 : Nat × List Pf) (x3 : Int) : compute (K + 1) x0 x1 x2 x3 =
  br (leI x3 (0 : Int))
  (compute_j0 K K x1 (x2).1 (x2).2 (33554432 : Int) x0)
  (compute_j0 K K x1 (x2).1 (x2).2 x3 x0) := by kernel_rfl
theorem compute_j0_eq (K k : Nat) (x0 : If) (f1 : Nat) (c1 : List (Pf)) (x2 : Int) (h : Hp) : compute_j0 K (k + 1) x0 f1 c1 x2 h =
  br (itag (111 : TypeId) x0)
  (Option.bind ((if2 (111 : TypeId) x0)) fun r0 =>
   Option.bind (lcs_linesSeqs_lengths K h r0) fun r1 =>
   Option.bind (newtriang K (r1).1 x2) fun r2 =>
   Option.bind (newtriang K (r2).1 x2) fun r3 =>
   br (Nat.beq f1 (79 : Go.FuncId))
   (chk (nilC c1) (Option.bind (twosided K (Hp.box (r3).1 144 (.pair (.ir) (.pair (.one (.sr)) (.pair (.one (.sr)) (.pair (.p (.int (.i64))) (.pair (.p (.int (.i64))) (.pair (.p (.int (.i64))) (.pair (.p (.int (.i64))) (.pair (.p (.int (.i64))) (.one (.p (.int (.i64)))))))))))) (x0, ((r2).2, ((r3).2, (x2, ((0 : Int), ((0 : Int), (((r1).2).1, (((r1).2).2, (IntKind.wrap IntKind.i64 (((r1).2).1 - ((r1).2).2))))))))))) (Pf.at ((r3).1).1 0)) fun r4 =>
    Option.bind (toDiffs K (r4).1 (r4).2 ((r1).2).1 ((r1).2).2) fun r5 =>
    some ((r5).1, ((r5).2, (r4).2))))
   (none))
  (br (itag (118 : TypeId) x0)
   (Option.bind ((if2 (118 : TypeId) x0)) fun r0 =>
    Option.bind (lcs_bytesSeqs_lengths K h r0) fun r1 =>
    Option.bind (newtriang K (r1).1 x2) fun r2 =>
    Option.bind (newtriang K (r2).1 x2) fun r3 =>
    br (Nat.beq f1 (79 : Go.FuncId))
    (chk (nilC c1) (Option.bind (twosided K (Hp.box (r3).1 144 (.pair (.ir) (.pair (.one (.sr)) (.pair (.one (.sr)) (.pair (.p (.int (.i64))) (.pair (.p (.int (.i64))) (.pair (.p (.int (.i64))) (.pair (.p (.int (.i64))) (.pair (.p (.int (.i64))) (.one (.p (.int (.i64)))))))))))) (x0, ((r2).2, ((r3).2, (x2, ((0 : Int), ((0 : Int), (((r1).2).1, (((r1).2).2, (IntKind.wrap IntKind.i64 (((r1).2).1 - ((r1).2).2))))))))))) (Pf.at ((r3).1).1 0)) fun r4 =>
     Option.bind (toDiffs K (r4).1 (r4).2 ((r1).2).1 ((r1).2).2) fun r5 =>
     some ((r5).1, ((r5).2, (r4).2))))
    (none))
   (br (itag (120 : TypeId) x0)
    (Option.bind ((if2 (120 : TypeId) x0)) fun r0 =>
     Option.bind (lcs_runesSeqs_lengths K h r0) fun r1 =>
     Option.bind (newtriang K (r1).1 x2) fun r2 =>
     Option.bind (newtriang K (r2).1 x2) fun r3 =>
     br (Nat.beq f1 (79 : Go.FuncId))
     (chk (nilC c1) (Option.bind (twosided K (Hp.box (r3).1 144 (.pair (.ir) (.pair (.one (.sr)) (.pair (.one (.sr)) (.pair (.p (.int (.i64))) (.pair (.p (.int (.i64))) (.pair (.p (.int (.i64))) (.pair (.p (.int (.i64))) (.pair (.p (.int (.i64))) (.one (.p (.int (.i64)))))))))))) (x0, ((r2).2, ((r3).2, (x2, ((0 : Int), ((0 : Int), (((r1).2).1, (((r1).2).2, (IntKind.wrap IntKind.i64 (((r1).2).1 - ((r1).2).2))))))))))) (Pf.at ((r3).1).1 0)) fun r4 =>
      Option.bind (toDiffs K (r4).1 (r4).2 ((r1).2).1 ((r1).2).2) fun r5 =>
      some ((r5).1, ((r5).2, (r4).2))))
     (none))
    (none))) := by kernel_rfl
theorem twosided_eq (K : Nat) (x0 : Hp) (x1 : Pf) : twosided (K + 1) x0 x1 =
  chk (Bool.not (pnil x1)) (chk (Bool.not (pnil x1)) (Option.bind ((Hp.ld x0 (.p (.int (.i64))) (padd 4 x1))) fun r0 =>
  Option.bind (setForward K x0 x1 (0 : Int) (0 : Int) r0) fun r1 =>
  chk (Bool.not (pnil x1)) (chk (Bool.not (pnil x1)) (Option.bind ((Hp.ld r1 (.p (.int (.i64))) (padd 6 x1))) fun r2 =>
  Option.bind (setBackward K r1 x1 (0 : Int) (0 : Int) r2) fun r3 =>
  chk (Bool.not (pnil x1)) (chk (Bool.not (pnil x1)) (Option.bind ((Hp.ld r3 (.p (.int (.i64))) (padd 3 x1))) fun r4 =>
  twosided_l0 K K x1 r4 (0 : Int) r3)))))) := by kernel_rfl
theorem twosided_l0_eq (K k : Nat) (x0 : Pf) (x40 : Int) (x41 : Int) (h : Hp) : twosided_l0 K (k + 1) x0 x40 x41 h =
  br (ltI x41 x40)
  (twosided_j0 K k x0 x40 x41 h)
  (twosided_j1 K k x0 h) := by kernel_rfl
theorem twosided_j0_eq (K k : Nat) (x0 : Pf) (x40 : Int) (x41 : Int) (h : Hp) : twosided_j0 K (k + 1) x0 x40 x41 h =
  Option.bind (twoDone K h x0 x41 x41) fun r0 =>
  br ((r0).2).2
  (Option.bind (twolcs K (r0).1 x0 x41 x41 ((r0).2).1) fun r1 =>
   some ((r1).1, (r1).2))
  (twosided_j2 K k x0 x41 x40 x41 (r0).1) := by kernel_rfl
theorem twosided_j1_eq (K k : Nat) (x0 : Pf) (h : Hp) : twosided_j1 K (k + 1) x0 h =
  chk (Bool.not (pnil x0)) (chk (Bool.not (pnil x0)) (Option.bind ((Hp.ld h (.p (.int (.i64))) (padd 3 x0))) fun r0 =>
  chk (Bool.not (pnil x0)) (chk (Bool.not (pnil x0)) (Option.bind ((Hp.ld h (.p (.int (.i64))) (padd 3 x0))) fun r1 =>
  twosided_l1 K k x0 (IntKind.wrap IntKind.i64 ((IntKind.wrap IntKind.i64 ((0 : Int) - r0)) - (1 : Int))) (-(1 : Int)) (IntKind.wrap IntKind.i64 ((0 : Int) - r1)) h)))) := by kernel_rfl
theorem twosided_j2_eq (K k : Nat) (x0 : Pf) (x3 : Int) (x40 : Int) (x41 : Int) (h : Hp) : twosided_j2 K (k + 1) x0 x3 x40 x41 h =
  Option.bind (getForward K h x0 x3 (IntKind.wrap IntKind.i64 ((0 : Int) - x3))) fun r0 =>
  Option.bind (setForward K (r0).1 x0 (IntKind.wrap IntKind.i64 (x3 + (1 : Int))) (IntKind.wrap IntKind.i64 ((0 : Int) - (IntKind.wrap IntKind.i64 (x3 + (1 : Int))))) (r0).2) fun r1 =>
  Option.bind (getForward K r1 x0 x3 x3) fun r2 =>
  Option.bind (setForward K (r2).1 x0 (IntKind.wrap IntKind.i64 (x3 + (1 : Int))) (IntKind.wrap IntKind.i64 (x3 + (1 : Int))) (IntKind.wrap IntKind.i64 ((r2).2 + (1 : Int)))) fun r3 =>
  twosided_l2 K k x0 x3 (IntKind.wrap IntKind.i64 ((IntKind.wrap IntKind.i64 ((0 : Int) - x3)) + (1 : Int))) x40 x41 r3 := by kernel_rfl
theorem twosided_l1_eq (K k : Nat) (x0 : Pf) (x14 : Int) (x15 : Int) (x16 : Int) (h : Hp) : twosided_l1 K (k + 1) x0 x14 x15 x16 h =
  chk (Bool.not (pnil x0)) (chk (Bool.not (pnil x0)) (Option.bind ((Hp.ld h (.p (.int (.i64))) (padd 3 x0))) fun r0 =>
  br (leI x16 r0)
  (twosided_j3 K k x0 x14 x15 x16 h)
  (twosided_j4 K k x0 x14 h))) := by kernel_rfl
theorem twosided_l2_eq (K k : Nat) (x0 : Pf) (x3 : Int) (x6 : Int) (x40 : Int) (x41 : Int) (h : Hp) : twosided_l2 K (k + 1) x0 x3 x6 x40 x41 h =
  br (leI x6 (IntKind.wrap IntKind.i64 (x3 - (1 : Int))))
  (twosided_j5 K k x0 x3 x6 x40 x41 h)
  (twosided_j6 K k x0 x3 x40 x41 h) := by kernel_rfl
theorem twosided_j3_eq (K k : Nat) (x0 : Pf) (x14 : Int) (x15 : Int) (x16 : Int) (h : Hp) : twosided_j3 K (k + 1) x0 x14 x15 x16 h =
  chk (Bool.not (pnil x0)) (chk (Bool.not (pnil x0)) (Option.bind ((Hp.ld h (.p (.int (.i64))) (padd 3 x0))) fun r0 =>
  Option.bind (getForward K h x0 r0 x16) fun r1 =>
  br (ltI x15 (IntKind.wrap IntKind.i64 ((r1).2 + (IntKind.wrap IntKind.i64 ((r1).2 - x16)))))
  (chk (Bool.not (pnil x0)) (chk (Bool.not (pnil x0)) (Option.bind ((Hp.ld (r1).1 (.p (.int (.i64))) (padd 6 x0))) fun r2 =>
   br (leI (r1).2 r2)
   (chk (Bool.not (pnil x0)) (chk (Bool.not (pnil x0)) (Option.bind ((Hp.ld (r1).1 (.p (.int (.i64))) (padd 7 x0))) fun r3 =>
    twosided_j7 K k x0 x14 x15 x16 (r1).2 (IntKind.wrap IntKind.i64 ((r1).2 - x16)) (leI (IntKind.wrap IntKind.i64 ((r1).2 - x16)) r3) (r1).1)))
   (twosided_j7 K k x0 x14 x15 x16 (r1).2 (IntKind.wrap IntKind.i64 ((r1).2 - x16)) Bool.false (r1).1))))
  (twosided_j7 K k x0 x14 x15 x16 (r1).2 (IntKind.wrap IntKind.i64 ((r1).2 - x16)) Bool.false (r1).1))) := by kernel_rfl
theorem twosided_j4_eq (K k : Nat) (x0 : Pf) (x14 : Int) (h : Hp) : twosided_j4 K (k + 1) x0 x14 h =
  chk (Bool.not (pnil x0)) (chk (Bool.not (pnil x0)) (Option.bind ((Hp.ld h (.p (.int (.i64))) (padd 3 x0))) fun r0 =>
  br (ltI x14 (IntKind.wrap IntKind.i64 ((0 : Int) - r0)))
  (none)
  (twosided_j8 K k x0 x14 h))) := by kernel_rfl
theorem twosided_j5_eq (K k : Nat) (x0 : Pf) (x3 : Int) (x6 : Int) (x40 : Int) (x41 : Int) (h : Hp) : twosided_j5 K (k + 1) x0 x3 x6 x40 x41 h =
  Option.bind (getForward K h x0 x3 (IntKind.wrap IntKind.i64 (x6 - (1 : Int)))) fun r0 =>
  Option.bind (lookForward K (r0).1 x0 x6 (IntKind.wrap IntKind.i64 ((r0).2 + (1 : Int)))) fun r1 =>
  Option.bind (getForward K (r1).1 x0 x3 (IntKind.wrap IntKind.i64 (x6 + (1 : Int)))) fun r2 =>
  Option.bind (lookForward K (r2).1 x0 x6 (r2).2) fun r3 =>
  br (ltI (r3).2 (r1).2)
  (Option.bind (setForward K (r3).1 x0 (IntKind.wrap IntKind.i64 (x3 + (1 : Int))) x6 (r1).2) fun r4 =>
   twosided_l2 K k x0 x3 (IntKind.wrap IntKind.i64 (x6 + (2 : Int))) x40 x41 r4)
  (Option.bind (setForward K (r3).1 x0 (IntKind.wrap IntKind.i64 (x3 + (1 : Int))) x6 (r3).2) fun r4 =>
   twosided_l2 K k x0 x3 (IntKind.wrap IntKind.i64 (x6 + (2 : Int))) x40 x41 r4) := by kernel_rfl
theorem twosided_j6_eq (K k : Nat) (x0 : Pf) (x3 : Int) (x40 : Int) (x41 : Int) (h : Hp) : twosided_j6 K (k + 1) x0 x3 x40 x41 h =
  Option.bind (twoDone K h x0 (IntKind.wrap IntKind.i64 (x3 + (1 : Int))) x3) fun r0 =>
  br ((r0).2).2
  (Option.bind (twolcs K (r0).1 x0 (IntKind.wrap IntKind.i64 (x3 + (1 : Int))) x3 ((r0).2).1) fun r1 =>
   some ((r1).1, (r1).2))
  (twosided_j9 K k x0 x3 x40 x41 (r0).1) := by kernel_rfl
theorem twosided_j7_eq (K k : Nat) (x0 : Pf) (x14 : Int) (x15 : Int) (x16 : Int) (x17 : Int) (x18 : Int) (x250 : Bool) (h : Hp) : twosided_j7 K (k + 1) x0 x14 x15 x16 x17 x18 x250 h =
  br x250
  (twosided_l1 K k x0 x16 (IntKind.wrap IntKind.i64 (x17 + x18)) (IntKind.wrap IntKind.i64 (x16 + (2 : Int))) h)
  (twosided_l1 K k x0 x14 x15 (IntKind.wrap IntKind.i64 (x16 + (2 : Int))) h) := by kernel_rfl
theorem twosided_j8_eq (K k : Nat) (x0 : Pf) (x14 : Int) (h : Hp) : twosided_j8 K (k + 1) x0 x14 h =
  chk (Bool.not (pnil x0)) (chk (Bool.not (pnil x0)) (Option.bind ((Hp.ld h (.p (.int (.i64))) (padd 3 x0))) fun r0 =>
  Option.bind (forwardlcs K h x0 r0 x14) fun r1 =>
  chk (Bool.not (pnil x0)) (chk (Bool.not (pnil x0)) (Option.bind ((Hp.ld (r1).1 (.p (.int (.i64))) (padd 3 x0))) fun r2 =>
  twosided_l3 K k x0 x14 (r1).2 (33554432 : Int) (IntKind.wrap IntKind.i64 ((0 : Int) - r2)) (r1).1)))) := by kernel_rfl
theorem twosided_j9_eq (K k : Nat) (x0 : Pf) (x3 : Int) (x40 : Int) (x41 : Int) (h : Hp) : twosided_j9 K (k + 1) x0 x3 x40 x41 h =
  Option.bind (getBackward K h x0 x3 (IntKind.wrap IntKind.i64 ((0 : Int) - x3))) fun r0 =>
  Option.bind (setBackward K (r0).1 x0 (IntKind.wrap IntKind.i64 (x3 + (1 : Int))) (IntKind.wrap IntKind.i64 ((0 : Int) - (IntKind.wrap IntKind.i64 (x3 + (1 : Int))))) (IntKind.wrap IntKind.i64 ((r0).2 - (1 : Int)))) fun r1 =>
  Option.bind (getBackward K r1 x0 x3 x3) fun r2 =>
  Option.bind (setBackward K (r2).1 x0 (IntKind.wrap IntKind.i64 (x3 + (1 : Int))) (IntKind.wrap IntKind.i64 (x3 + (1 : Int))) (r2).2) fun r3 =>
  twosided_l4 K k x0 x3 (IntKind.wrap IntKind.i64 ((IntKind.wrap IntKind.i64 ((0 : Int) - x3)) + (1 : Int))) x40 x41 r3 := by kernel_rfl
theorem twosided_l3_eq (K k : Nat) (x0 : Pf) (x14 : Int) (x19 : Rf) (x20 : Int) (x21 : Int) (h : Hp) : twosided_l3 K (k + 1) x0 x14 x19 x20 x21 h =
  chk (Bool.not (pnil x0)) (chk (Bool.not (pnil x0)) (Option.bind ((Hp.ld h (.p (.int (.i64))) (padd 3 x0))) fun r0 =>
  br (leI x21 r0)
  (twosided_j10 K k x0 x14 x19 x20 x21 h)
  (twosided_j11 K k x0 x14 x19 h))) := by kernel_rfl
theorem twosided_l4_eq (K k : Nat) (x0 : Pf) (x3 : Int) (x11 : Int) (x40 : Int) (x41 : Int) (h : Hp) : twosided_l4 K (k + 1) x0 x3 x11 x40 x41 h =
  br (leI x11 (IntKind.wrap IntKind.i64 (x3 - (1 : Int))))
  (twosided_j12 K k x0 x3 x11 x40 x41 h)
  (twosided_l0 K k x0 x40 (IntKind.wrap IntKind.i64 (x41 + (1 : Int))) h) := by kernel_rfl
theorem twosided_j10_eq (K k : Nat) (x0 : Pf) (x14 : Int) (x19 : Rf) (x20 : Int) (x21 : Int) (h : Hp) : twosided_j10 K (k + 1) x0 x14 x19 x20 x21 h =
  chk (Bool.not (pnil x0)) (chk (Bool.not (pnil x0)) (Option.bind ((Hp.ld h (.p (.int (.i64))) (padd 3 x0))) fun r0 =>
  Option.bind (getBackward K h x0 r0 x21) fun r1 =>
  chk (Bool.not (pnil x0)) (chk (Bool.not (pnil x0)) (Option.bind ((Hp.ld (r1).1 (.p (.int (.i64))) (padd 8 x0))) fun r2 =>
  br (ltI (IntKind.wrap IntKind.i64 ((r1).2 + (IntKind.wrap IntKind.i64 ((r1).2 - (IntKind.wrap IntKind.i64 (x21 + r2)))))) x20)
  (br (leI (0 : Int) (r1).2)
   (twosided_j13 K k x0 x14 x19 x20 x21 (r1).2 (IntKind.wrap IntKind.i64 ((r1).2 - (IntKind.wrap IntKind.i64 (x21 + r2)))) (leI (0 : Int) (IntKind.wrap IntKind.i64 ((r1).2 - (IntKind.wrap IntKind.i64 (x21 + r2))))) (r1).1)
   (twosided_j13 K k x0 x14 x19 x20 x21 (r1).2 (IntKind.wrap IntKind.i64 ((r1).2 - (IntKind.wrap IntKind.i64 (x21 + r2)))) Bool.false (r1).1))
  (twosided_j13 K k x0 x14 x19 x20 x21 (r1).2 (IntKind.wrap IntKind.i64 ((r1).2 - (IntKind.wrap IntKind.i64 (x21 + r2)))) Bool.false (r1).1))))) := by kernel_rfl
theorem twosided_j11_eq (K k : Nat) (x0 : Pf) (x14 : Int) (x19 : Rf) (h : Hp) : twosided_j11 K (k + 1) x0 x14 x19 h =
  chk (Bool.not (pnil x0)) (chk (Bool.not (pnil x0)) (Option.bind ((Hp.ld h (.p (.int (.i64))) (padd 3 x0))) fun r0 =>
  br (ltI x14 (IntKind.wrap IntKind.i64 ((0 : Int) - r0)))
  (none)
  (twosided_j14 K k x0 x14 x19 h))) := by kernel_rfl
theorem twosided_j12_eq (K k : Nat) (x0 : Pf) (x3 : Int) (x11 : Int) (x40 : Int) (x41 : Int) (h : Hp) : twosided_j12 K (k + 1) x0 x3 x11 x40 x41 h =
  Option.bind (getBackward K h x0 x3 (IntKind.wrap IntKind.i64 (x11 - (1 : Int)))) fun r0 =>
  Option.bind (lookBackward K (r0).1 x0 x11 (r0).2) fun r1 =>
  Option.bind (getBackward K (r1).1 x0 x3 (IntKind.wrap IntKind.i64 (x11 + (1 : Int)))) fun r2 =>
  Option.bind (lookBackward K (r2).1 x0 x11 (IntKind.wrap IntKind.i64 ((r2).2 - (1 : Int)))) fun r3 =>
  br (ltI (r1).2 (r3).2)
  (Option.bind (setBackward K (r3).1 x0 (IntKind.wrap IntKind.i64 (x3 + (1 : Int))) x11 (r1).2) fun r4 =>
   twosided_l4 K k x0 x3 (IntKind.wrap IntKind.i64 (x11 + (2 : Int))) x40 x41 r4)
  (Option.bind (setBackward K (r3).1 x0 (IntKind.wrap IntKind.i64 (x3 + (1 : Int))) x11 (r3).2) fun r4 =>
   twosided_l4 K k x0 x3 (IntKind.wrap IntKind.i64 (x11 + (2 : Int))) x40 x41 r4) := by kernel_rfl
theorem twosided_j13_eq (K k : Nat) (x0 : Pf) (x14 : Int) (x19 : Rf) (x20 : Int) (x21 : Int) (x22 : Int) (x23 : Int) (x310 : Bool) (h : Hp) : twosided_j13 K (k + 1) x0 x14 x19 x20 x21 x22 x23 x310 h =
  br x310
  (twosided_l3 K k x0 x21 x19 (IntKind.wrap IntKind.i64 (x22 + x23)) (IntKind.wrap IntKind.i64 (x21 + (2 : Int))) h)
  (twosided_l3 K k x0 x14 x19 x20 (IntKind.wrap IntKind.i64 (x21 + (2 : Int))) h) := by kernel_rfl
theorem twosided_j14_eq (K k : Nat) (x0 : Pf) (x14 : Int) (x19 : Rf) (h : Hp) : twosided_j14 K (k + 1) x0 x14 x19 h =
  chk (Bool.not (pnil x0)) (chk (Bool.not (pnil x0)) (Option.bind ((Hp.ld h (.p (.int (.i64))) (padd 3 x0))) fun r0 =>
  Option.bind (backwardlcs K h x0 r0 x14) fun r1 =>
  Option.bind ((Hp.cs (r1).1 3 (r1).2)) fun r2 =>
  chk (ltI (((rlen x19) : Int) + ((r2).2 : Int)) (1000000000000 : Int)) (Option.bind ((Hp.app (r1).1 (154 : TypeId) 3 (r2).1 (r2).2 x19)) fun r3 =>
  Option.bind (fix K (r3).2 (r3).1) fun r4 =>
  some ((r4).1, (r4).2)))) := by kernel_rfl
theorem newtriang_eq (K : Nat) (x0 : Hp) (x1 : Int) : newtriang (K + 1) x0 x1 =
  br (ltI x1 (100 : Int))
  (chk (leI (0 : Int) x1) (chk (leI x1 x1) (chk (ltI x1 (1000000000000 : Int)) (Option.bind ((Hp.st (Hp.new (Hp.box x0 141 (.one (.sr)) Rf.nil) (60 : TypeId) (.sr) (List.replicate (Int.toNat x1) Rf.nil)) (.one (.sr)) (Pf.at (x0).1 0) (Rf.at (Nat.succ (x0).1) 0 (Int.toNat x1)))) fun r0 =>
   Option.bind ((Hp.ld r0 (.one (.sr)) (Pf.at (x0).1 0))) fun r1 =>
   some (r0, r1)))))
  (Option.bind ((Hp.st (Hp.box x0 141 (.one (.sr)) Rf.nil) (.one (.sr)) (Pf.at (x0).1 0) Rf.nil)) fun r0 =>
   Option.bind ((Hp.ld r0 (.one (.sr)) (Pf.at (x0).1 0))) fun r1 =>
   some (r0, r1)) := by kernel_rfl
theorem toDiffs_eq (K : Nat) (x0 : Hp) (x1 : Rf) (x2 : Int) (x3 : Int) : toDiffs (K + 1) x0 x1 x2 x3 =
  toDiffs_l0 K K x2 x3 [] (0 : Int) (0 : Int) x1 ((rlen x1) : Int) (0 : Int) x0 := by kernel_rfl
theorem toDiffs_l0_eq (K k : Nat) (x1 : Int) (x2 : Int) (x7 : List (TS0.den)) (x8 : Int) (x9 : Int) (x12 : Rf) (x13 : Int) (x14 : Int) (h : Hp) : toDiffs_l0 K (k + 1) x1 x2 x7 x8 x9 x12 x13 x14 h =
  br (ltI x14 x13)
  (toDiffs_j0 K k x1 x2 x7 x8 x9 x12 x13 x14 h)
  (toDiffs_j1 K k x1 x2 x7 x8 x9 h) := by kernel_rfl
theorem toDiffs_j0_eq (K k : Nat) (x1 : Int) (x2 : Int) (x7 : List (TS0.den)) (x8 : Int) (x9 : Int) (x12 : Rf) (x13 : Int) (x14 : Int) (h : Hp) : toDiffs_j0 K (k + 1) x1 x2 x7 x8 x9 x12 x13 x14 h =
  chk (leI (0 : Int) x14) (chk (ltI x14 ((rlen x12) : Int)) (Option.bind ((Hp.ld h (.p TS2) (radr 3 (Int.toNat x14) x12))) fun r0 =>
  br (ltI x8 (r0).1)
  (toDiffs_j2 K k x1 x2 x7 x8 x9 (0 : Int) (r0 :: []) x12 x13 x14 Bool.true h)
  (toDiffs_j2 K k x1 x2 x7 x8 x9 (0 : Int) (r0 :: []) x12 x13 x14 (ltI x9 ((r0).2).1) h))) := by kernel_rfl
theorem toDiffs_j1_eq (K k : Nat) (x1 : Int) (x2 : Int) (x7 : List (TS0.den)) (x8 : Int) (x9 : Int) (h : Hp) : toDiffs_j1 K (k + 1) x1 x2 x7 x8 x9 h =
  br (ltI x8 x1)
  (toDiffs_j3 K k x1 x2 x7 x8 x9 Bool.true h)
  (toDiffs_j3 K k x1 x2 x7 x8 x9 (ltI x9 x2) h) := by kernel_rfl
theorem toDiffs_j2_eq (K k : Nat) (x1 : Int) (x2 : Int) (x7 : List (TS0.den)) (x8 : Int) (x9 : Int) (i11 : Int) (x11 : List (TS2.den)) (x12 : Rf) (x13 : Int) (x14 : Int) (x27 : Bool) (h : Hp) : toDiffs_j2 K (k + 1) x1 x2 x7 x8 x9 i11 x11 x12 x13 x14 x27 h =
  br x27
  (chk (ltI (((List.length x7) : Int) + ((List.length ((x8, (((nth TS2 x11 i11)).1, (x9, (((nth TS2 x11 i11)).2).1))) :: [])) : Int)) (1000000000000 : Int)) (toDiffs_j4 K k x1 x2 (x7 ++ ((x8, (((nth TS2 x11 i11)).1, (x9, (((nth TS2 x11 i11)).2).1))) :: [])) i11 x11 x12 x13 x14 h))
  (toDiffs_j4 K k x1 x2 x7 i11 x11 x12 x13 x14 h) := by kernel_rfl
theorem toDiffs_j3_eq (K k : Nat) (x1 : Int) (x2 : Int) (x7 : List (TS0.den)) (x8 : Int) (x9 : Int) (x56 : Bool) (h : Hp) : toDiffs_j3 K (k + 1) x1 x2 x7 x8 x9 x56 h =
  br x56
  (chk (ltI (((List.length x7) : Int) + ((List.length ((x8, (x1, (x9, x2))) :: [])) : Int)) (1000000000000 : Int)) (some (h, (x7 ++ ((x8, (x1, (x9, x2))) :: [])))))
  (some (h, x7)) := by kernel_rfl
theorem toDiffs_j4_eq (K k : Nat) (x1 : Int) (x2 : Int) (x7 : List (TS0.den)) (i11 : Int) (x11 : List (TS2.den)) (x12 : Rf) (x13 : Int) (x14 : Int) (h : Hp) : toDiffs_j4 K (k + 1) x1 x2 x7 i11 x11 x12 x13 x14 h =
  toDiffs_l0 K k x1 x2 x7 (IntKind.wrap IntKind.i64 (((nth TS2 x11 i11)).1 + (((nth TS2 x11 i11)).2).2)) (IntKind.wrap IntKind.i64 ((((nth TS2 x11 i11)).2).1 + (((nth TS2 x11 i11)).2).2)) x12 x13 (IntKind.wrap IntKind.i64 (x14 + (1 : Int))) h := by kernel_rfl
theorem setForward_eq (K : Nat) (x0 : Hp) (x1 : Pf) (x2 : Int) (x3 : Int) (x4 : Int) : setForward (K + 1) x0 x1 x2 x3 x4 =
  Option.bind (lookForward K x0 x1 x3 x4) fun r0 =>
  chk (Bool.not (pnil x1)) (chk (Bool.not (pnil x1)) (chk (Bool.not (pnil x1)) (chk (Bool.not (pnil x1)) (Option.bind ((Hp.ld (r0).1 (.p (.int (.i64))) (padd 4 x1))) fun r1 =>
  Option.bind (set K (r0).1 (padd 1 x1) x2 x3 (IntKind.wrap IntKind.i64 ((r0).2 - r1))) fun r2 =>
  some r2)))) := by kernel_rfl
theorem setBackward_eq (K : Nat) (x0 : Hp) (x1 : Pf) (x2 : Int) (x3 : Int) (x4 : Int) : setBackward (K + 1) x0 x1 x2 x3 x4 =
  Option.bind (lookBackward K x0 x1 x3 x4) fun r0 =>
  chk (Bool.not (pnil x1)) (chk (Bool.not (pnil x1)) (chk (Bool.not (pnil x1)) (chk (Bool.not (pnil x1)) (Option.bind ((Hp.ld (r0).1 (.p (.int (.i64))) (padd 4 x1))) fun r1 =>
  Option.bind (set K (r0).1 (padd 2 x1) x2 x3 (IntKind.wrap IntKind.i64 ((r0).2 - r1))) fun r2 =>
  some r2)))) := by kernel_rfl
theorem twoDone_eq (K : Nat) (x0 : Hp) (x1 : Pf) (x2 : Int) (x3 : Int) : twoDone (K + 1) x0 x1 x2 x3 =
  chk (Bool.not (pnil x1)) (chk (Bool.not (pnil x1)) (Option.bind ((Hp.ld x0 (.p (.int (.i64))) (padd 8 x1))) fun r0 =>
  chk (Bool.not (eqI (2 : Int) (0 : Int))) (br (Bool.not (eqI (Int.tmod (IntKind.wrap IntKind.i64 ((IntKind.wrap IntKind.i64 (x2 + x3)) + r0)) (2 : Int)) (0 : Int)))
  (some (x0, ((0 : Int), Bool.false)))
  (twoDone_j0 K K x1 x2 x3 x0)))) := by kernel_rfl
theorem twoDone_j0_eq (K k : Nat) (x0 : Pf) (x1 : Int) (x2 : Int) (h : Hp) : twoDone_j0 K (k + 1) x0 x1 x2 h =
  chk (Bool.not (pnil x0)) (chk (Bool.not (pnil x0)) (Option.bind ((Hp.ld h (.p (.int (.i64))) (padd 8 x0))) fun r0 =>
  chk (Bool.not (pnil x0)) (chk (Bool.not (pnil x0)) (Option.bind ((Hp.ld h (.p (.int (.i64))) (padd 8 x0))) fun r1 =>
  twoDone_l0 K k x0 x1 x2 (cond (ltI (IntKind.wrap IntKind.i64 (x2 + r1)) x1) (IntKind.wrap IntKind.i64 (x2 + r1)) x1) (cond (ltI (IntKind.wrap IntKind.i64 ((0 : Int) - x1)) (IntKind.wrap IntKind.i64 ((IntKind.wrap IntKind.i64 ((0 : Int) - x2)) + r0))) (IntKind.wrap IntKind.i64 ((IntKind.wrap IntKind.i64 ((0 : Int) - x2)) + r0)) (IntKind.wrap IntKind.i64 ((0 : Int) - x1))) h)))) := by kernel_rfl
theorem twoDone_l0_eq (K k : Nat) (x0 : Pf) (x1 : Int) (x2 : Int) (x9 : Int) (x10 : Int) (h : Hp) : twoDone_l0 K (k + 1) x0 x1 x2 x9 x10 h =
  br (leI x10 x9)
  (twoDone_j1 K k x0 x1 x2 x9 x10 h)
  (some (h, ((0 : Int), Bool.false))) := by kernel_rfl
theorem twoDone_j1_eq (K k : Nat) (x0 : Pf) (x1 : Int) (x2 : Int) (x9 : Int) (x10 : Int) (h : Hp) : twoDone_j1 K (k + 1) x0 x1 x2 x9 x10 h =
  chk (Bool.not (pnil x0)) (chk (Bool.not (pnil x0)) (Option.bind (get K h (padd 1 x0) x1 x10) fun r0 =>
  chk (Bool.not (pnil x0)) (chk (Bool.not (pnil x0)) (chk (Bool.not (pnil x0)) (chk (Bool.not (pnil x0)) (Option.bind ((Hp.ld (r0).1 (.p (.int (.i64))) (padd 8 x0))) fun r1 =>
  Option.bind (get K (r0).1 (padd 2 x0) x2 (IntKind.wrap IntKind.i64 (x10 - r1))) fun r2 =>
  br (leI (r2).2 (r0).2)
  (twoDone_l1 K k x0 x1 x2 x9 x10 x10 (r2).1)
  (twoDone_l0 K k x0 x1 x2 x9 (IntKind.wrap IntKind.i64 (x10 + (2 : Int))) (r2).1))))))) := by kernel_rfl
theorem twoDone_l1_eq (K k : Nat) (x0 : Pf) (x1 : Int) (x2 : Int) (x9 : Int) (x10 : Int) (x13 : Int) (h : Hp) : twoDone_l1 K (k + 1) x0 x1 x2 x9 x10 x13 h =
  br (leI x13 x9)
  (twoDone_j2 K k x0 x1 x2 x9 x10 x13 h)
  (some (h, (x10, Bool.true))) := by kernel_rfl
theorem twoDone_j2_eq (K k : Nat) (x0 : Pf) (x1 : Int) (x2 : Int) (x9 : Int) (x10 : Int) (x13 : Int) (h : Hp) : twoDone_j2 K (k + 1) x0 x1 x2 x9 x10 x13 h =
  chk (Bool.not (pnil x0)) (chk (Bool.not (pnil x0)) (Option.bind (get K h (padd 1 x0) x1 x13) fun r0 =>
  chk (Bool.not (pnil x0)) (chk (Bool.not (pnil x0)) (chk (Bool.not (pnil x0)) (chk (Bool.not (pnil x0)) (Option.bind ((Hp.ld (r0).1 (.p (.int (.i64))) (padd 8 x0))) fun r1 =>
  Option.bind (get K (r0).1 (padd 2 x0) x2 (IntKind.wrap IntKind.i64 (x13 - r1))) fun r2 =>
  br (eqI (r0).2 (r2).2)
  (twoDone_j3 K k x0 x1 x2 x9 x10 x13 Bool.true (r2).1)
  (br (eqI (r2).2 (0 : Int))
   (twoDone_j3 K k x0 x1 x2 x9 x10 x13 Bool.true (r2).1)
   (br (eqI (IntKind.wrap IntKind.i64 ((r2).2 - x13)) (0 : Int))
    (twoDone_j3 K k x0 x1 x2 x9 x10 x13 Bool.true (r2).1)
    (chk (Bool.not (pnil x0)) (chk (Bool.not (pnil x0)) (Option.bind ((Hp.ld (r2).1 (.p (.int (.i64))) (padd 7 x0))) fun r3 =>
     br (eqI (IntKind.wrap IntKind.i64 ((r0).2 - x13)) r3)
     (twoDone_j3 K k x0 x1 x2 x9 x10 x13 Bool.true (r2).1)
     (chk (Bool.not (pnil x0)) (chk (Bool.not (pnil x0)) (Option.bind ((Hp.ld (r2).1 (.p (.int (.i64))) (padd 6 x0))) fun r4 =>
      twoDone_j3 K k x0 x1 x2 x9 x10 x13 (eqI (r0).2 r4) (r2).1)))))))))))))) := by kernel_rfl
theorem twoDone_j3_eq (K k : Nat) (x0 : Pf) (x1 : Int) (x2 : Int) (x9 : Int) (x10 : Int) (x13 : Int) (x127 : Bool) (h : Hp) : twoDone_j3 K (k + 1) x0 x1 x2 x9 x10 x13 x127 h =
  br x127
  (some (h, (x13, Bool.true)))
  (twoDone_l1 K k x0 x1 x2 x9 x10 (IntKind.wrap IntKind.i64 (x13 + (2 : Int))) h) := by kernel_rfl
theorem twolcs_eq (K : Nat) (x0 : Hp) (x1 : Pf) (x2 : Int) (x3 : Int) (x4 : Int) : twolcs (K + 1) x0 x1 x2 x3 x4 =
  chk (Bool.not (pnil x1)) (chk (Bool.not (pnil x1)) (Option.bind (get K x0 (padd 1 x1) x2 x4) fun r0 =>
  chk (Bool.not (pnil x1)) (chk (Bool.not (pnil x1)) (Option.bind ((Hp.ld (r0).1 (.p (.int (.i64))) (padd 8 x1))) fun r1 =>
  chk (Bool.not (pnil x1)) (chk (Bool.not (pnil x1)) (Option.bind (get K (r0).1 (padd 2 x1) x3 (IntKind.wrap IntKind.i64 (x4 - r1))) fun r2 =>
  br (eqI (r0).2 (r2).2)
  (Option.bind (forwardlcs K (r2).1 x1 x2 x4) fun r3 =>
   Option.bind (backwardlcs K (r3).1 x1 x3 (IntKind.wrap IntKind.i64 (x4 - r1))) fun r4 =>
   Option.bind ((Hp.cs (r4).1 3 (r4).2)) fun r5 =>
   chk (ltI (((rlen (r3).2) : Int) + ((r5).2 : Int)) (1000000000000 : Int)) (Option.bind ((Hp.app (r4).1 (154 : TypeId) 3 (r5).1 (r5).2 (r3).2)) fun r6 =>
   Option.bind (sort K (r6).2 (r6).1) fun r7 =>
   some ((r7).1, (r7).2)))
  (twolcs_j0 K K x1 x2 x3 x4 (r0).2 (IntKind.wrap IntKind.i64 ((r0).2 - x4)) (IntKind.wrap IntKind.i64 (x4 - r1)) (r2).2 (IntKind.wrap IntKind.i64 ((r2).2 - x4)) (r2).1))))))) := by kernel_rfl
theorem twolcs_j0_eq (K k : Nat) (x0 : Pf) (x1 : Int) (x2 : Int) (x3 : Int) (x9 : Int) (x10 : Int) (x11 : Int) (x12 : Int) (x13 : Int) (h : Hp) : twolcs_j0 K (k + 1) x0 x1 x2 x3 x9 x10 x11 x12 x13 h =
  br (ltI (0 : Int) x12)
  (Option.bind (ok K (IntKind.wrap IntKind.i64 (x1 - (1 : Int))) (IntKind.wrap IntKind.i64 ((IntKind.wrap IntKind.i64 (x12 - (1 : Int))) - x13))) fun r0 =>
   br r0
   (chk (Bool.not (pnil x0)) (chk (Bool.not (pnil x0)) (Option.bind (get K h (padd 1 x0) (IntKind.wrap IntKind.i64 (x1 - (1 : Int))) (IntKind.wrap IntKind.i64 ((IntKind.wrap IntKind.i64 (x12 - (1 : Int))) - x13))) fun r1 =>
    twolcs_j1 K k x0 x1 x2 x3 x9 x10 x11 x12 x13 (eqI (r1).2 (IntKind.wrap IntKind.i64 (x12 - (1 : Int)))) (r1).1)))
   (twolcs_j1 K k x0 x1 x2 x3 x9 x10 x11 x12 x13 Bool.false h))
  (twolcs_j1 K k x0 x1 x2 x3 x9 x10 x11 x12 x13 Bool.false h) := by kernel_rfl
theorem twolcs_j1_eq (K k : Nat) (x0 : Pf) (x1 : Int) (x2 : Int) (x3 : Int) (x9 : Int) (x10 : Int) (x11 : Int) (x12 : Int) (x13 : Int) (x86 : Bool) (h : Hp) : twolcs_j1 K (k + 1) x0 x1 x2 x3 x9 x10 x11 x12 x13 x86 h =
  br x86
  (Option.bind (forwardlcs K h x0 (IntKind.wrap IntKind.i64 (x1 - (1 : Int))) (IntKind.wrap IntKind.i64 ((IntKind.wrap IntKind.i64 (x12 - (1 : Int))) - x13))) fun r0 =>
   Option.bind (backwardlcs K (r0).1 x0 x2 x11) fun r1 =>
   Option.bind ((Hp.cs (r1).1 3 (r1).2)) fun r2 =>
   chk (ltI (((rlen (r0).2) : Int) + ((r2).2 : Int)) (1000000000000 : Int)) (Option.bind ((Hp.app (r1).1 (154 : TypeId) 3 (r2).1 (r2).2 (r0).2)) fun r3 =>
   Option.bind (sort K (r3).2 (r3).1) fun r4 =>
   some ((r4).1, (r4).2)))
  (twolcs_j2 K k x0 x1 x2 x3 x9 x10 x11 x12 x13 h) := by kernel_rfl
theorem twolcs_j2_eq (K k : Nat) (x0 : Pf) (x1 : Int) (x2 : Int) (x3 : Int) (x9 : Int) (x10 : Int) (x11 : Int) (x12 : Int) (x13 : Int) (h : Hp) : twolcs_j2 K (k + 1) x0 x1 x2 x3 x9 x10 x11 x12 x13 h =
  br (ltI (0 : Int) x13)
  (Option.bind (ok K (IntKind.wrap IntKind.i64 (x1 - (1 : Int))) (IntKind.wrap IntKind.i64 (x12 - (IntKind.wrap IntKind.i64 (x13 - (1 : Int)))))) fun r0 =>
   br r0
   (chk (Bool.not (pnil x0)) (chk (Bool.not (pnil x0)) (Option.bind (get K h (padd 1 x0) (IntKind.wrap IntKind.i64 (x1 - (1 : Int))) (IntKind.wrap IntKind.i64 (x12 - (IntKind.wrap IntKind.i64 (x13 - (1 : Int)))))) fun r1 =>
    twolcs_j3 K k x0 x1 x2 x3 x9 x10 x11 x12 x13 (eqI (r1).2 x12) (r1).1)))
   (twolcs_j3 K k x0 x1 x2 x3 x9 x10 x11 x12 x13 Bool.false h))
  (twolcs_j3 K k x0 x1 x2 x3 x9 x10 x11 x12 x13 Bool.false h) := by kernel_rfl
theorem twolcs_j3_eq (K k : Nat) (x0 : Pf) (x1 : Int) (x2 : Int) (x3 : Int) (x9 : Int) (x10 : Int) (x11 : Int) (x12 : Int) (x13 : Int) (x127 : Bool) (h : Hp) : twolcs_j3 K (k + 1) x0 x1 x2 x3 x9 x10 x11 x12 x13 x127 h =
  br x127
  (Option.bind (forwardlcs K h x0 (IntKind.wrap IntKind.i64 (x1 - (1 : Int))) (IntKind.wrap IntKind.i64 (x12 - (IntKind.wrap IntKind.i64 (x13 - (1 : Int)))))) fun r0 =>
   Option.bind (backwardlcs K (r0).1 x0 x2 x11) fun r1 =>
   Option.bind ((Hp.cs (r1).1 3 (r1).2)) fun r2 =>
   chk (ltI (((rlen (r0).2) : Int) + ((r2).2 : Int)) (1000000000000 : Int)) (Option.bind ((Hp.app (r1).1 (154 : TypeId) 3 (r2).1 (r2).2 (r0).2)) fun r3 =>
   Option.bind (sort K (r3).2 (r3).1) fun r4 =>
   some ((r4).1, (r4).2)))
  (twolcs_j4 K k x0 x1 x2 x3 x9 x10 x11 x12 x13 h) := by kernel_rfl
theorem twolcs_j4_eq (K k : Nat) (x0 : Pf) (x1 : Int) (x2 : Int) (x3 : Int) (x9 : Int) (x10 : Int) (x11 : Int) (x12 : Int) (x13 : Int) (h : Hp) : twolcs_j4 K (k + 1) x0 x1 x2 x3 x9 x10 x11 x12 x13 h =
  br (eqI x12 (0 : Int))
  (twolcs_j5 K k x0 x1 x2 x3 x9 x10 x11 x12 x13 Bool.true h)
  (br (eqI x13 (0 : Int))
   (twolcs_j5 K k x0 x1 x2 x3 x9 x10 x11 x12 x13 Bool.true h)
   (chk (Bool.not (pnil x0)) (chk (Bool.not (pnil x0)) (Option.bind ((Hp.ld h (.p (.int (.i64))) (padd 6 x0))) fun r0 =>
    br (eqI x9 r0)
    (twolcs_j5 K k x0 x1 x2 x3 x9 x10 x11 x12 x13 Bool.true h)
    (chk (Bool.not (pnil x0)) (chk (Bool.not (pnil x0)) (Option.bind ((Hp.ld h (.p (.int (.i64))) (padd 7 x0))) fun r1 =>
     twolcs_j5 K k x0 x1 x2 x3 x9 x10 x11 x12 x13 (eqI x10 r1) h))))))) := by kernel_rfl
theorem twolcs_j5_eq (K k : Nat) (x0 : Pf) (x1 : Int) (x2 : Int) (x3 : Int) (x9 : Int) (x10 : Int) (x11 : Int) (x12 : Int) (x13 : Int) (x165 : Bool) (h : Hp) : twolcs_j5 K (k + 1) x0 x1 x2 x3 x9 x10 x11 x12 x13 x165 h =
  br x165
  (br (eqI x12 (0 : Int))
   (twolcs_j6 K k x0 x1 x2 x3 x11 Bool.true h)
   (twolcs_j6 K k x0 x1 x2 x3 x11 (eqI x13 (0 : Int)) h))
  (twolcs_j7 K k x0 x1 x2 x3 x9 x10 x11 x12 x13 h) := by kernel_rfl
theorem twolcs_j6_eq (K k : Nat) (x0 : Pf) (x1 : Int) (x2 : Int) (x3 : Int) (x11 : Int) (x171 : Bool) (h : Hp) : twolcs_j6 K (k + 1) x0 x1 x2 x3 x11 x171 h =
  br x171
  (Option.bind (backwardlcs K h x0 x2 x11) fun r0 =>
   some ((r0).1, (r0).2))
  (twolcs_j8 K k x0 x1 x3 h) := by kernel_rfl
theorem twolcs_j7_eq (K k : Nat) (x0 : Pf) (x1 : Int) (x2 : Int) (x3 : Int) (x9 : Int) (x10 : Int) (x11 : Int) (x12 : Int) (x13 : Int) (h : Hp) : twolcs_j7 K (k + 1) x0 x1 x2 x3 x9 x10 x11 x12 x13 h =
  chk (Bool.not (pnil x0)) (chk (Bool.not (pnil x0)) (Option.bind ((Hp.ld h (.p (.int (.i64))) (padd 6 x0))) fun r0 =>
  br (leI (IntKind.wrap IntKind.i64 (x9 + (1 : Int))) r0)
  (chk (Bool.not (pnil x0)) (chk (Bool.not (pnil x0)) (Option.bind ((Hp.ld h (.p (.int (.i64))) (padd 8 x0))) fun r1 =>
   Option.bind (ok K (IntKind.wrap IntKind.i64 (x2 - (1 : Int))) (IntKind.wrap IntKind.i64 ((IntKind.wrap IntKind.i64 ((IntKind.wrap IntKind.i64 (x9 + (1 : Int))) - x10)) - r1))) fun r2 =>
   br r2
   (chk (Bool.not (pnil x0)) (chk (Bool.not (pnil x0)) (chk (Bool.not (pnil x0)) (chk (Bool.not (pnil x0)) (Option.bind ((Hp.ld h (.p (.int (.i64))) (padd 8 x0))) fun r3 =>
    Option.bind (get K h (padd 2 x0) (IntKind.wrap IntKind.i64 (x2 - (1 : Int))) (IntKind.wrap IntKind.i64 ((IntKind.wrap IntKind.i64 ((IntKind.wrap IntKind.i64 (x9 + (1 : Int))) - x10)) - r3))) fun r4 =>
    twolcs_j9 K k x0 x1 x2 x3 x9 x10 x11 x12 x13 (eqI (r4).2 (IntKind.wrap IntKind.i64 (x9 + (1 : Int)))) (r4).1)))))
   (twolcs_j9 K k x0 x1 x2 x3 x9 x10 x11 x12 x13 Bool.false h))))
  (twolcs_j9 K k x0 x1 x2 x3 x9 x10 x11 x12 x13 Bool.false h))) := by kernel_rfl
theorem twolcs_j8_eq (K k : Nat) (x0 : Pf) (x1 : Int) (x3 : Int) (h : Hp) : twolcs_j8 K (k + 1) x0 x1 x3 h =
  Option.bind (forwardlcs K h x0 x1 x3) fun r0 =>
  some ((r0).1, (r0).2) := by kernel_rfl
theorem twolcs_j9_eq (K k : Nat) (x0 : Pf) (x1 : Int) (x2 : Int) (x3 : Int) (x9 : Int) (x10 : Int) (x11 : Int) (x12 : Int) (x13 : Int) (x220 : Bool) (h : Hp) : twolcs_j9 K (k + 1) x0 x1 x2 x3 x9 x10 x11 x12 x13 x220 h =
  br x220
  (Option.bind (backwardlcs K h x0 (IntKind.wrap IntKind.i64 (x2 - (1 : Int))) (IntKind.wrap IntKind.i64 (x11 + (1 : Int)))) fun r0 =>
   Option.bind (forwardlcs K (r0).1 x0 x1 x3) fun r1 =>
   Option.bind ((Hp.cs (r1).1 3 (r1).2)) fun r2 =>
   chk (ltI (((rlen (r0).2) : Int) + ((r2).2 : Int)) (1000000000000 : Int)) (Option.bind ((Hp.app (r1).1 (154 : TypeId) 3 (r2).1 (r2).2 (r0).2)) fun r3 =>
   Option.bind (sort K (r3).2 (r3).1) fun r4 =>
   some ((r4).1, (r4).2)))
  (twolcs_j10 K k x0 x1 x2 x3 x9 x10 x11 x12 x13 h) := by kernel_rfl
theorem twolcs_j10_eq (K k : Nat) (x0 : Pf) (x1 : Int) (x2 : Int) (x3 : Int) (x9 : Int) (x10 : Int) (x11 : Int) (x12 : Int) (x13 : Int) (h : Hp) : twolcs_j10 K (k + 1) x0 x1 x2 x3 x9 x10 x11 x12 x13 h =
  chk (Bool.not (pnil x0)) (chk (Bool.not (pnil x0)) (Option.bind ((Hp.ld h (.p (.int (.i64))) (padd 7 x0))) fun r0 =>
  br (leI (IntKind.wrap IntKind.i64 (x10 + (1 : Int))) r0)
  (chk (Bool.not (pnil x0)) (chk (Bool.not (pnil x0)) (Option.bind ((Hp.ld h (.p (.int (.i64))) (padd 8 x0))) fun r1 =>
   Option.bind (ok K (IntKind.wrap IntKind.i64 (x2 - (1 : Int))) (IntKind.wrap IntKind.i64 ((IntKind.wrap IntKind.i64 (x9 - (IntKind.wrap IntKind.i64 (x10 + (1 : Int))))) - r1))) fun r2 =>
   br r2
   (chk (Bool.not (pnil x0)) (chk (Bool.not (pnil x0)) (chk (Bool.not (pnil x0)) (chk (Bool.not (pnil x0)) (Option.bind ((Hp.ld h (.p (.int (.i64))) (padd 8 x0))) fun r3 =>
    Option.bind (get K h (padd 2 x0) (IntKind.wrap IntKind.i64 (x2 - (1 : Int))) (IntKind.wrap IntKind.i64 ((IntKind.wrap IntKind.i64 (x9 - (IntKind.wrap IntKind.i64 (x10 + (1 : Int))))) - r3))) fun r4 =>
    twolcs_j11 K k x0 x1 x2 x3 x11 x12 x13 (eqI (r4).2 x9) (r4).1)))))
   (twolcs_j11 K k x0 x1 x2 x3 x11 x12 x13 Bool.false h))))
  (twolcs_j11 K k x0 x1 x2 x3 x11 x12 x13 Bool.false h))) := by kernel_rfl
theorem twolcs_j11_eq (K k : Nat) (x0 : Pf) (x1 : Int) (x2 : Int) (x3 : Int) (x11 : Int) (x12 : Int) (x13 : Int) (x274 : Bool) (h : Hp) : twolcs_j11 K (k + 1) x0 x1 x2 x3 x11 x12 x13 x274 h =
  br x274
  (Option.bind (backwardlcs K h x0 (IntKind.wrap IntKind.i64 (x2 - (1 : Int))) (IntKind.wrap IntKind.i64 (x11 - (1 : Int)))) fun r0 =>
   Option.bind (forwardlcs K (r0).1 x0 x1 x3) fun r1 =>
   Option.bind ((Hp.cs (r1).1 3 (r1).2)) fun r2 =>
   chk (ltI (((rlen (r0).2) : Int) + ((r2).2 : Int)) (1000000000000 : Int)) (Option.bind ((Hp.app (r1).1 (154 : TypeId) 3 (r2).1 (r2).2 (r0).2)) fun r3 =>
   Option.bind (sort K (r3).2 (r3).1) fun r4 =>
   some ((r4).1, (r4).2)))
  (twolcs_j12 K k x0 x2 x11 x12 x13 h) := by kernel_rfl
theorem twolcs_j12_eq (K k : Nat) (x0 : Pf) (x2 : Int) (x11 : Int) (x12 : Int) (x13 : Int) (h : Hp) : twolcs_j12 K (k + 1) x0 x2 x11 x12 x13 h =
  Option.bind (backwardlcs K h x0 x2 x11) fun r0 =>
  chk (Bool.not (pnil x0)) (chk (Bool.not (pnil x0)) (Option.bind ((Hp.ld (r0).1 (.p (.int (.i64))) (padd 6 x0))) fun r1 =>
  chk (Bool.not (pnil x0)) (chk (Bool.not (pnil x0)) (Option.bind ((Hp.ld (r0).1 (.p (.int (.i64))) (padd 7 x0))) fun r2 =>
  chk (Bool.not (pnil x0)) (chk (Bool.not (pnil x0)) (Option.bind ((Hp.st (r0).1 (.p (.int (.i64))) (padd 6 x0) x12)) fun r3 =>
  chk (Bool.not (pnil x0)) (chk (Bool.not (pnil x0)) (Option.bind ((Hp.st r3 (.p (.int (.i64))) (padd 7 x0) x13)) fun r4 =>
  Option.bind (forward K r4 x0) fun r5 =>
  Option.bind ((Hp.cs (r5).1 3 (r5).2)) fun r6 =>
  chk (ltI (((rlen (r0).2) : Int) + ((r6).2 : Int)) (1000000000000 : Int)) (Option.bind ((Hp.app (r5).1 (154 : TypeId) 3 (r6).1 (r6).2 (r0).2)) fun r7 =>
  chk (Bool.not (pnil x0)) (chk (Bool.not (pnil x0)) (Option.bind ((Hp.st (r7).2 (.p (.int (.i64))) (padd 6 x0) r1)) fun r8 =>
  chk (Bool.not (pnil x0)) (chk (Bool.not (pnil x0)) (Option.bind ((Hp.st r8 (.p (.int (.i64))) (padd 7 x0) r2)) fun r9 =>
  Option.bind (sort K r9 (r7).1) fun r10 =>
  some ((r10).1, (r10).2)))))))))))))) := by kernel_rfl
theorem getForward_eq (K : Nat) (x0 : Hp) (x1 : Pf) (x2 : Int) (x3 : Int) : getForward (K + 1) x0 x1 x2 x3 =
  chk (Bool.not (pnil x1)) (chk (Bool.not (pnil x1)) (Option.bind (get K x0 (padd 1 x1) x2 x3) fun r0 =>
  some ((r0).1, (r0).2))) := by kernel_rfl
theorem lookForward_eq (K : Nat) (x0 : Hp) (x1 : Pf) (x2 : Int) (x3 : Int) : lookForward (K + 1) x0 x1 x2 x3 =
  chk (Bool.not (pnil x1)) (chk (Bool.not (pnil x1)) (Option.bind ((Hp.ld x0 (.p (.int (.i64))) (padd 4 x1))) fun r0 =>
  chk (Bool.not (pnil x1)) (chk (Bool.not (pnil x1)) (Option.bind ((Hp.ld x0 (.p (.int (.i64))) (padd 5 x1))) fun r1 =>
  chk (Bool.not (pnil x1)) (chk (Bool.not (pnil x1)) (Option.bind ((Hp.ld x0 (.p (.int (.i64))) (padd 6 x1))) fun r2 =>
  br (ltI (IntKind.wrap IntKind.i64 (x3 + r0)) r2)
  (chk (Bool.not (pnil x1)) (chk (Bool.not (pnil x1)) (Option.bind ((Hp.ld x0 (.p (.int (.i64))) (padd 7 x1))) fun r3 =>
   lookForward_j0 K K x1 (IntKind.wrap IntKind.i64 (x3 + r0)) (IntKind.wrap IntKind.i64 ((IntKind.wrap IntKind.i64 (x3 - x2)) + r1)) (ltI (IntKind.wrap IntKind.i64 ((IntKind.wrap IntKind.i64 (x3 - x2)) + r1)) r3) x0)))
  (lookForward_j0 K K x1 (IntKind.wrap IntKind.i64 (x3 + r0)) (IntKind.wrap IntKind.i64 ((IntKind.wrap IntKind.i64 (x3 - x2)) + r1)) Bool.false x0))))))) := by kernel_rfl
theorem lookForward_j0_eq (K k : Nat) (x0 : Pf) (x8 : Int) (x9 : Int) (x38 : Bool) (h : Hp) : lookForward_j0 K (k + 1) x0 x8 x9 x38 h =
  br x38
  (chk (Bool.not (pnil x0)) (chk (Bool.not (pnil x0)) (Option.bind ((Hp.ld h (.ir) (padd 0 x0))) fun r0 =>
   chk (Bool.not (pnil x0)) (chk (Bool.not (pnil x0)) (Option.bind ((Hp.ld h (.p (.int (.i64))) (padd 6 x0))) fun r1 =>
   chk (Bool.not (pnil x0)) (chk (Bool.not (pnil x0)) (Option.bind ((Hp.ld h (.p (.int (.i64))) (padd 7 x0))) fun r2 =>
   chk (Bool.not (inil r0)) (br (itag (111 : TypeId) r0)
   (Option.bind ((if2 (111 : TypeId) r0)) fun r3 =>
    Option.bind (lcs_linesSeqs_commonPrefixLen K h r3 x8 r1 x9 r2) fun r4 =>
    some ((r4).1, (IntKind.wrap IntKind.i64 (x8 + (r4).2))))
   (br (itag (118 : TypeId) r0)
    (Option.bind ((if2 (118 : TypeId) r0)) fun r3 =>
     Option.bind (lcs_bytesSeqs_commonPrefixLen K h r3 x8 r1 x9 r2) fun r4 =>
     some ((r4).1, (IntKind.wrap IntKind.i64 (x8 + (r4).2))))
    (br (itag (120 : TypeId) r0)
     (Option.bind ((if2 (120 : TypeId) r0)) fun r3 =>
      Option.bind (lcs_runesSeqs_commonPrefixLen K h r3 x8 r1 x9 r2) fun r4 =>
      some ((r4).1, (IntKind.wrap IntKind.i64 (x8 + (r4).2))))
     (none)))))))))))
  (some (h, x8)) := by kernel_rfl
theorem getBackward_eq (K : Nat) (x0 : Hp) (x1 : Pf) (x2 : Int) (x3 : Int) : getBackward (K + 1) x0 x1 x2 x3 =
  chk (Bool.not (pnil x1)) (chk (Bool.not (pnil x1)) (Option.bind (get K x0 (padd 2 x1) x2 x3) fun r0 =>
  some ((r0).1, (r0).2))) := by kernel_rfl
theorem lookBackward_eq (K : Nat) (x0 : Hp) (x1 : Pf) (x2 : Int) (x3 : Int) : lookBackward (K + 1) x0 x1 x2 x3 =
  chk (Bool.not (pnil x1)) (chk (Bool.not (pnil x1)) (Option.bind ((Hp.ld x0 (.p (.int (.i64))) (padd 8 x1))) fun r0 =>
  chk (Bool.not (pnil x1)) (chk (Bool.not (pnil x1)) (Option.bind ((Hp.ld x0 (.p (.int (.i64))) (padd 4 x1))) fun r1 =>
  chk (Bool.not (pnil x1)) (chk (Bool.not (pnil x1)) (Option.bind ((Hp.ld x0 (.p (.int (.i64))) (padd 5 x1))) fun r2 =>
  br (ltI (0 : Int) (IntKind.wrap IntKind.i64 (x3 + r1)))
  (lookBackward_j0 K K x1 (IntKind.wrap IntKind.i64 (x3 + r1)) (IntKind.wrap IntKind.i64 ((IntKind.wrap IntKind.i64 (x3 - (IntKind.wrap IntKind.i64 (x2 + r0)))) + r2)) (ltI (0 : Int) (IntKind.wrap IntKind.i64 ((IntKind.wrap IntKind.i64 (x3 - (IntKind.wrap IntKind.i64 (x2 + r0)))) + r2))) x0)
  (lookBackward_j0 K K x1 (IntKind.wrap IntKind.i64 (x3 + r1)) (IntKind.wrap IntKind.i64 ((IntKind.wrap IntKind.i64 (x3 - (IntKind.wrap IntKind.i64 (x2 + r0)))) + r2)) Bool.false x0))))))) := by kernel_rfl
theorem lookBackward_j0_eq (K k : Nat) (x0 : Pf) (x8 : Int) (x9 : Int) (x35 : Bool) (h : Hp) : lookBackward_j0 K (k + 1) x0 x8 x9 x35 h =
  br x35
  (chk (Bool.not (pnil x0)) (chk (Bool.not (pnil x0)) (Option.bind ((Hp.ld h (.ir) (padd 0 x0))) fun r0 =>
   br (itag (111 : TypeId) r0)
   (Option.bind ((if2 (111 : TypeId) r0)) fun r1 =>
    Option.bind (lcs_linesSeqs_commonSuffixLen K h r1 (0 : Int) x8 (0 : Int) x9) fun r2 =>
    some ((r2).1, (IntKind.wrap IntKind.i64 (x8 - (r2).2))))
   (br (itag (118 : TypeId) r0)
    (Option.bind ((if2 (118 : TypeId) r0)) fun r1 =>
     Option.bind (lcs_bytesSeqs_commonSuffixLen K h r1 (0 : Int) x8 (0 : Int) x9) fun r2 =>
     some ((r2).1, (IntKind.wrap IntKind.i64 (x8 - (r2).2))))
    (br (itag (120 : TypeId) r0)
     (Option.bind ((if2 (120 : TypeId) r0)) fun r1 =>
      Option.bind (lcs_runesSeqs_commonSuffixLen K h r1 (0 : Int) x8 (0 : Int) x9) fun r2 =>
      some ((r2).1, (IntKind.wrap IntKind.i64 (x8 - (r2).2))))
     (none))))))
  (some (h, x8)) := by kernel_rfl
theorem forwardlcs_eq (K : Nat) (x0 : Hp) (x1 : Pf) (x2 : Int) (x3 : Int) : forwardlcs (K + 1) x0 x1 x2 x3 =
  Option.bind (getForward K x0 x1 x2 x3) fun r0 =>
  forwardlcs_l0 K K x1 x2 x3 Rf.nil (r0).2 (r0).1 := by kernel_rfl
theorem forwardlcs_l0_eq (K k : Nat) (x0 : Pf) (x1 : Int) (x2 : Int) (x7 : Rf) (x8 : Int) (h : Hp) : forwardlcs_l0 K (k + 1) x0 x1 x2 x7 x8 h =
  br (Bool.not (eqI x8 (0 : Int)))
  (forwardlcs_j0 K k x0 x1 x2 x7 x8 h)
  (br (Bool.not (eqI (IntKind.wrap IntKind.i64 (x8 - x2)) (0 : Int)))
   (forwardlcs_j0 K k x0 x1 x2 x7 x8 h)
   (some (h, x7))) := by kernel_rfl
theorem forwardlcs_j0_eq (K k : Nat) (x0 : Pf) (x1 : Int) (x2 : Int) (x7 : Rf) (x8 : Int) (h : Hp) : forwardlcs_j0 K (k + 1) x0 x1 x2 x7 x8 h =
  Option.bind (ok K (IntKind.wrap IntKind.i64 (x1 - (1 : Int))) (IntKind.wrap IntKind.i64 (x2 - (1 : Int)))) fun r0 =>
  br r0
  (Option.bind (getForward K h x0 (IntKind.wrap IntKind.i64 (x1 - (1 : Int))) (IntKind.wrap IntKind.i64 (x2 - (1 : Int)))) fun r1 =>
   forwardlcs_j1 K k x0 x1 x2 x7 x8 (eqI (IntKind.wrap IntKind.i64 (x8 - (1 : Int))) (r1).2) (r1).1)
  (forwardlcs_j1 K k x0 x1 x2 x7 x8 Bool.false h) := by kernel_rfl
theorem forwardlcs_j1_eq (K k : Nat) (x0 : Pf) (x1 : Int) (x2 : Int) (x7 : Rf) (x8 : Int) (x37 : Bool) (h : Hp) : forwardlcs_j1 K (k + 1) x0 x1 x2 x7 x8 x37 h =
  br x37
  (forwardlcs_l0 K k x0 (IntKind.wrap IntKind.i64 (x1 - (1 : Int))) (IntKind.wrap IntKind.i64 (x2 - (1 : Int))) x7 (IntKind.wrap IntKind.i64 (x8 - (1 : Int))) h)
  (Option.bind (ok K (IntKind.wrap IntKind.i64 (x1 - (1 : Int))) (IntKind.wrap IntKind.i64 (x2 + (1 : Int)))) fun r0 =>
   br r0
   (Option.bind (getForward K h x0 (IntKind.wrap IntKind.i64 (x1 - (1 : Int))) (IntKind.wrap IntKind.i64 (x2 + (1 : Int)))) fun r1 =>
    forwardlcs_j2 K k x0 x1 x2 x7 x8 (eqI x8 (r1).2) (r1).1)
   (forwardlcs_j2 K k x0 x1 x2 x7 x8 Bool.false h)) := by kernel_rfl
theorem forwardlcs_j2_eq (K k : Nat) (x0 : Pf) (x1 : Int) (x2 : Int) (x7 : Rf) (x8 : Int) (x58 : Bool) (h : Hp) : forwardlcs_j2 K (k + 1) x0 x1 x2 x7 x8 x58 h =
  br x58
  (forwardlcs_l0 K k x0 (IntKind.wrap IntKind.i64 (x1 - (1 : Int))) (IntKind.wrap IntKind.i64 (x2 + (1 : Int))) x7 x8 h)
  (forwardlcs_j3 K k x0 x1 x2 x7 x8 h) := by kernel_rfl
theorem forwardlcs_j3_eq (K k : Nat) (x0 : Pf) (x1 : Int) (x2 : Int) (x7 : Rf) (x8 : Int) (h : Hp) : forwardlcs_j3 K (k + 1) x0 x1 x2 x7 x8 h =
  chk (Bool.not (pnil x0)) (chk (Bool.not (pnil x0)) (Option.bind ((Hp.ld h (.p (.int (.i64))) (padd 4 x0))) fun r0 =>
  chk (Bool.not (pnil x0)) (chk (Bool.not (pnil x0)) (Option.bind ((Hp.ld h (.p (.int (.i64))) (padd 5 x0))) fun r1 =>
  Option.bind (prepend K h x7 (IntKind.wrap IntKind.i64 ((IntKind.wrap IntKind.i64 (x8 + r0)) - (1 : Int))) (IntKind.wrap IntKind.i64 ((IntKind.wrap IntKind.i64 ((IntKind.wrap IntKind.i64 (x8 - x2)) + r1)) - (1 : Int)))) fun r2 =>
  forwardlcs_l0 K k x0 x1 x2 (r2).2 (IntKind.wrap IntKind.i64 (x8 - (1 : Int))) (r2).1)))) := by kernel_rfl
theorem backwardlcs_eq (K : Nat) (x0 : Hp) (x1 : Pf) (x2 : Int) (x3 : Int) : backwardlcs (K + 1) x0 x1 x2 x3 =
  Option.bind (getBackward K x0 x1 x2 x3) fun r0 =>
  backwardlcs_l0 K K x1 x2 x3 Rf.nil (r0).2 (r0).1 := by kernel_rfl
theorem backwardlcs_l0_eq (K k : Nat) (x0 : Pf) (x1 : Int) (x2 : Int) (x7 : Rf) (x8 : Int) (h : Hp) : backwardlcs_l0 K (k + 1) x0 x1 x2 x7 x8 h =
  chk (Bool.not (pnil x0)) (chk (Bool.not (pnil x0)) (Option.bind ((Hp.ld h (.p (.int (.i64))) (padd 6 x0))) fun r0 =>
  br (Bool.not (eqI x8 r0))
  (backwardlcs_j0 K k x0 x1 x2 x7 x8 h)
  (chk (Bool.not (pnil x0)) (chk (Bool.not (pnil x0)) (Option.bind ((Hp.ld h (.p (.int (.i64))) (padd 8 x0))) fun r1 =>
   chk (Bool.not (pnil x0)) (chk (Bool.not (pnil x0)) (Option.bind ((Hp.ld h (.p (.int (.i64))) (padd 7 x0))) fun r2 =>
   br (Bool.not (eqI (IntKind.wrap IntKind.i64 (x8 - (IntKind.wrap IntKind.i64 (x2 + r1)))) r2))
   (backwardlcs_j0 K k x0 x1 x2 x7 x8 h)
   (some (h, x7))))))))) := by kernel_rfl
theorem backwardlcs_j0_eq (K k : Nat) (x0 : Pf) (x1 : Int) (x2 : Int) (x7 : Rf) (x8 : Int) (h : Hp) : backwardlcs_j0 K (k + 1) x0 x1 x2 x7 x8 h =
  Option.bind (ok K (IntKind.wrap IntKind.i64 (x1 - (1 : Int))) (IntKind.wrap IntKind.i64 (x2 - (1 : Int)))) fun r0 =>
  br r0
  (Option.bind (getBackward K h x0 (IntKind.wrap IntKind.i64 (x1 - (1 : Int))) (IntKind.wrap IntKind.i64 (x2 - (1 : Int)))) fun r1 =>
   backwardlcs_j1 K k x0 x1 x2 x7 x8 (eqI x8 (r1).2) (r1).1)
  (backwardlcs_j1 K k x0 x1 x2 x7 x8 Bool.false h) := by kernel_rfl
theorem backwardlcs_j1_eq (K k : Nat) (x0 : Pf) (x1 : Int) (x2 : Int) (x7 : Rf) (x8 : Int) (x49 : Bool) (h : Hp) : backwardlcs_j1 K (k + 1) x0 x1 x2 x7 x8 x49 h =
  br x49
  (backwardlcs_l0 K k x0 (IntKind.wrap IntKind.i64 (x1 - (1 : Int))) (IntKind.wrap IntKind.i64 (x2 - (1 : Int))) x7 x8 h)
  (Option.bind (ok K (IntKind.wrap IntKind.i64 (x1 - (1 : Int))) (IntKind.wrap IntKind.i64 (x2 + (1 : Int)))) fun r0 =>
   br r0
   (Option.bind (getBackward K h x0 (IntKind.wrap IntKind.i64 (x1 - (1 : Int))) (IntKind.wrap IntKind.i64 (x2 + (1 : Int)))) fun r1 =>
    backwardlcs_j2 K k x0 x1 x2 x7 x8 (eqI (IntKind.wrap IntKind.i64 (x8 + (1 : Int))) (r1).2) (r1).1)
   (backwardlcs_j2 K k x0 x1 x2 x7 x8 Bool.false h)) := by kernel_rfl
theorem backwardlcs_j2_eq (K k : Nat) (x0 : Pf) (x1 : Int) (x2 : Int) (x7 : Rf) (x8 : Int) (x69 : Bool) (h : Hp) : backwardlcs_j2 K (k + 1) x0 x1 x2 x7 x8 x69 h =
  br x69
  (backwardlcs_l0 K k x0 (IntKind.wrap IntKind.i64 (x1 - (1 : Int))) (IntKind.wrap IntKind.i64 (x2 + (1 : Int))) x7 (IntKind.wrap IntKind.i64 (x8 + (1 : Int))) h)
  (backwardlcs_j3 K k x0 x1 x2 x7 x8 h) := by kernel_rfl
theorem backwardlcs_j3_eq (K k : Nat) (x0 : Pf) (x1 : Int) (x2 : Int) (x7 : Rf) (x8 : Int) (h : Hp) : backwardlcs_j3 K (k + 1) x0 x1 x2 x7 x8 h =
  chk (Bool.not (pnil x0)) (chk (Bool.not (pnil x0)) (Option.bind ((Hp.ld h (.p (.int (.i64))) (padd 8 x0))) fun r0 =>
  chk (Bool.not (pnil x0)) (chk (Bool.not (pnil x0)) (Option.bind ((Hp.ld h (.p (.int (.i64))) (padd 4 x0))) fun r1 =>
  chk (Bool.not (pnil x0)) (chk (Bool.not (pnil x0)) (Option.bind ((Hp.ld h (.p (.int (.i64))) (padd 5 x0))) fun r2 =>
  Option.bind (append K h x7 (IntKind.wrap IntKind.i64 (x8 + r1)) (IntKind.wrap IntKind.i64 ((IntKind.wrap IntKind.i64 (x8 - (IntKind.wrap IntKind.i64 (x2 + r0)))) + r2))) fun r3 =>
  backwardlcs_l0 K k x0 x1 x2 (r3).2 (IntKind.wrap IntKind.i64 (x8 + (1 : Int))) (r3).1)))))) := by kernel_rfl
theorem fix_eq (K : Nat) (x0 : Hp) (x1 : Rf) : fix (K + 1) x0 x1 =
  br (eqI ((rlen x1) : Int) (0 : Int))
  (some (x0, Rf.nil))
  (fix_j0 K K x1 x0) := by kernel_rfl
theorem fix_j0_eq (K k : Nat) (x0 : Rf) (h : Hp) : fix_j0 K (k + 1) x0 h =
  Option.bind (zzSort K h x0 (103, [])) fun r0 =>
  chk (leI (0 : Int) (0 : Int)) (chk (leI (0 : Int) ((rlen x0) : Int)) (chk (ltI ((rlen x0) : Int) (1000000000000 : Int)) (chk (leI (0 : Int) (0 : Int)) (chk (ltI (0 : Int) ((rlen x0) : Int)) (Option.bind ((Hp.ld (Hp.new r0 (154 : TypeId) (.p TS2) (List.replicate (Int.toNat (0 : Int)) ((0 : Int), ((0 : Int), (0 : Int))))) (.p TS2) (radr 3 (Int.toNat (0 : Int)) x0))) fun r1 =>
  Option.bind ((Hp.cs (Hp.new (Hp.new r0 (154 : TypeId) (.p TS2) (List.replicate (Int.toNat (0 : Int)) ((0 : Int), ((0 : Int), (0 : Int))))) (154 : TypeId) (.p TS2) (r1 :: [])) 3 (Rf.at (Nat.succ (r0).1) 0 1))) fun r2 =>
  chk (ltI (((rlen (Rf.at (r0).1 0 (Int.toNat (0 : Int)))) : Int) + ((r2).2 : Int)) (1000000000000 : Int)) (Option.bind ((Hp.app (Hp.new (Hp.new r0 (154 : TypeId) (.p TS2) (List.replicate (Int.toNat (0 : Int)) ((0 : Int), ((0 : Int), (0 : Int))))) (154 : TypeId) (.p TS2) (r1 :: [])) (154 : TypeId) 3 (r2).1 (r2).2 (Rf.at (r0).1 0 (Int.toNat (0 : Int))))) fun r3 =>
  fix_l0 K k x0 (r3).1 (1 : Int) (r3).2)))))) := by kernel_rfl
theorem fix_l0_eq (K k : Nat) (x0 : Rf) (x3 : Rf) (x4 : Int) (h : Hp) : fix_l0 K (k + 1) x0 x3 x4 h =
  br (ltI x4 ((rlen x0) : Int))
  (fix_j1 K k x0 x3 x4 h)
  (fix_j2 K k x3 h) := by kernel_rfl
theorem fix_j1_eq (K k : Nat) (x0 : Rf) (x3 : Rf) (x4 : Int) (h : Hp) : fix_j1 K (k + 1) x0 x3 x4 h =
  chk (leI (0 : Int) x4) (chk (ltI x4 ((rlen x0) : Int)) (Option.bind ((Hp.ld h (.p TS2) (radr 3 (Int.toNat x4) x0))) fun r0 =>
  fix_l1 K k x0 x3 x4 (0 : Int) (0 : Int) (r0 :: []) x3 ((rlen x3) : Int) (0 : Int) h)) := by kernel_rfl
theorem fix_j2_eq (K k : Nat) (x3 : Rf) (h : Hp) : fix_j2 K (k + 1) x3 h =
  Option.bind (sort K h x3) fun r0 =>
  some ((r0).1, x3) := by kernel_rfl
theorem fix_l1_eq (K k : Nat) (x0 : Rf) (x3 : Rf) (x4 : Int) (x5 : Int) (i6 : Int) (x6 : List (TS2.den)) (x33 : Rf) (x34 : Int) (x35 : Int) (h : Hp) : fix_l1 K (k + 1) x0 x3 x4 x5 i6 x6 x33 x34 x35 h =
  br (ltI x35 x34)
  (fix_j3 K k x0 x3 x4 i6 x6 x33 x34 x35 h)
  (fix_j4 K k x0 x3 x4 x5 i6 x6 h) := by kernel_rfl
theorem fix_j3_eq (K k : Nat) (x0 : Rf) (x3 : Rf) (x4 : Int) (i6 : Int) (x6 : List (TS2.den)) (x33 : Rf) (x34 : Int) (x35 : Int) (h : Hp) : fix_j3 K (k + 1) x0 x3 x4 i6 x6 x33 x34 x35 h =
  chk (leI (0 : Int) x35) (chk (ltI x35 ((rlen x33) : Int)) (Option.bind ((Hp.ld h (.p TS2) (radr 3 (Int.toNat x35) x33))) fun r0 =>
  Option.bind (overlap K r0 (nth TS2 x6 i6)) fun r1 =>
  br (eqI (r1).1 (0 : Int))
  (fix_j4 K k x0 x3 x4 (r1).1 i6 (List.set x6 (Int.toNat i6) (r1).2) h)
  (br (eqI (r1).1 (3 : Int))
   (fix_j4 K k x0 x3 x4 (r1).1 i6 (List.set x6 (Int.toNat i6) (r1).2) h)
   (fix_l1 K k x0 x3 x4 (r1).1 i6 (List.set x6 (Int.toNat i6) (r1).2) x33 x34 (IntKind.wrap IntKind.i64 (x35 + (1 : Int))) h)))) := by kernel_rfl
theorem fix_j4_eq (K k : Nat) (x0 : Rf) (x3 : Rf) (x4 : Int) (x5 : Int) (i6 : Int) (x6 : List (TS2.den)) (h : Hp) : fix_j4 K (k + 1) x0 x3 x4 x5 i6 x6 h =
  br (ltI (0 : Int) (((nth TS2 x6 i6)).2).2)
  (fix_j5 K k x0 x3 x4 i6 x6 (Bool.not (eqI x5 (3 : Int))) h)
  (fix_j5 K k x0 x3 x4 i6 x6 Bool.false h) := by kernel_rfl
theorem fix_j5_eq (K k : Nat) (x0 : Rf) (x3 : Rf) (x4 : Int) (i6 : Int) (x6 : List (TS2.den)) (x58 : Bool) (h : Hp) : fix_j5 K (k + 1) x0 x3 x4 i6 x6 x58 h =
  br x58
  (Option.bind ((Hp.cs (Hp.new h (154 : TypeId) (.p TS2) ((nth TS2 x6 i6) :: [])) 3 (Rf.at (h).1 0 1))) fun r0 =>
   chk (ltI (((rlen x3) : Int) + ((r0).2 : Int)) (1000000000000 : Int)) (Option.bind ((Hp.app (Hp.new h (154 : TypeId) (.p TS2) ((nth TS2 x6 i6) :: [])) (154 : TypeId) 3 (r0).1 (r0).2 x3)) fun r1 =>
   fix_l0 K k x0 (r1).1 (IntKind.wrap IntKind.i64 (x4 + (1 : Int))) (r1).2))
  (fix_l0 K k x0 x3 (IntKind.wrap IntKind.i64 (x4 + (1 : Int))) h) := by kernel_rfl
theorem set_eq (K : Nat) (x0 : Hp) (x1 : Pf) (x2 : Int) (x3 : Int) (x4 : Int) : set (K + 1) x0 x1 x2 x3 x4 =
  set_l0 K K x1 x2 x3 x4 x0 := by kernel_rfl
theorem set_l0_eq (K k : Nat) (x0 : Pf) (x1 : Int) (x2 : Int) (x3 : Int) (h : Hp) : set_l0 K (k + 1) x0 x1 x2 x3 h =
  chk (Bool.not (pnil x0)) (chk (Bool.not (pnil x0)) (Option.bind ((Hp.ld h (.sr) (padd 0 x0))) fun r0 =>
  br (leI ((rlen r0) : Int) x1)
  (set_j0 K k x0 x1 x2 x3 h)
  (set_j1 K k x0 x1 x2 x3 h))) := by kernel_rfl
theorem set_j0_eq (K k : Nat) (x0 : Pf) (x1 : Int) (x2 : Int) (x3 : Int) (h : Hp) : set_j0 K (k + 1) x0 x1 x2 x3 h =
  chk (Bool.not (pnil x0)) (chk (Bool.not (pnil x0)) (Option.bind ((Hp.ld h (.sr) (padd 0 x0))) fun r0 =>
  Option.bind ((Hp.cs (Hp.new h (60 : TypeId) (.sr) (Rf.nil :: [])) 1 (Rf.at (h).1 0 1))) fun r1 =>
  chk (ltI (((rlen r0) : Int) + ((r1).2 : Int)) (1000000000000 : Int)) (Option.bind ((Hp.app (Hp.new h (60 : TypeId) (.sr) (Rf.nil :: [])) (60 : TypeId) 1 (r1).1 (r1).2 r0)) fun r2 =>
  chk (Bool.not (pnil x0)) (chk (Bool.not (pnil x0)) (Option.bind ((Hp.st (r2).2 (.sr) (padd 0 x0) (r2).1)) fun r3 =>
  set_l0 K k x0 x1 x2 x3 r3))))) := by kernel_rfl
theorem set_j1_eq (K k : Nat) (x0 : Pf) (x1 : Int) (x2 : Int) (x3 : Int) (h : Hp) : set_j1 K (k + 1) x0 x1 x2 x3 h =
  chk (Bool.not (pnil x0)) (chk (Bool.not (pnil x0)) (Option.bind ((Hp.ld h (.sr) (padd 0 x0))) fun r0 =>
  chk (leI (0 : Int) x1) (chk (ltI x1 ((rlen r0) : Int)) (Option.bind ((Hp.ld h (.sr) (radr 1 (Int.toNat x1) r0))) fun r1 =>
  chk (rsure r1) (br (rnil r1)
  (chk (Bool.not (pnil x0)) (chk (Bool.not (pnil x0)) (Option.bind ((Hp.ld h (.sr) (padd 0 x0))) fun r2 =>
   chk (leI (0 : Int) (IntKind.wrap IntKind.i64 (x1 + (1 : Int)))) (chk (leI (IntKind.wrap IntKind.i64 (x1 + (1 : Int))) (IntKind.wrap IntKind.i64 (x1 + (1 : Int)))) (chk (ltI (IntKind.wrap IntKind.i64 (x1 + (1 : Int))) (1000000000000 : Int)) (chk (leI (0 : Int) x1) (chk (ltI x1 ((rlen r2) : Int)) (Option.bind ((Hp.st (Hp.new h (3 : TypeId) (.p (.int (.i64))) (List.replicate (Int.toNat (IntKind.wrap IntKind.i64 (x1 + (1 : Int)))) (0 : Int))) (.sr) (radr 1 (Int.toNat x1) r2) (Rf.at (h).1 0 (Int.toNat (IntKind.wrap IntKind.i64 (x1 + (1 : Int))))))) fun r3 =>
   set_j2 K k x0 x1 x2 x3 r3))))))))
  (set_j2 K k x0 x1 x2 x3 h)))))) := by kernel_rfl
theorem set_j2_eq (K k : Nat) (x0 : Pf) (x1 : Int) (x2 : Int) (x3 : Int) (h : Hp) : set_j2 K (k + 1) x0 x1 x2 x3 h =
  chk (Bool.not (pnil x0)) (chk (Bool.not (pnil x0)) (Option.bind ((Hp.ld h (.sr) (padd 0 x0))) fun r0 =>
  chk (leI (0 : Int) x1) (chk (ltI x1 ((rlen r0) : Int)) (Option.bind ((Hp.ld h (.sr) (radr 1 (Int.toNat x1) r0))) fun r1 =>
  chk (Bool.not (eqI (2 : Int) (0 : Int))) (chk (leI (0 : Int) (IntKind.wrap IntKind.i64 (Int.tdiv (IntKind.wrap IntKind.i64 (x1 + x2)) (2 : Int)))) (chk (ltI (IntKind.wrap IntKind.i64 (Int.tdiv (IntKind.wrap IntKind.i64 (x1 + x2)) (2 : Int))) ((rlen r1) : Int)) (Option.bind ((Hp.st h (.p (.int (.i64))) (radr 1 (Int.toNat (IntKind.wrap IntKind.i64 (Int.tdiv (IntKind.wrap IntKind.i64 (x1 + x2)) (2 : Int)))) r1) x3)) fun r2 =>
  some r2))))))) := by kernel_rfl
theorem get_eq (K : Nat) (x0 : Hp) (x1 : Pf) (x2 : Int) (x3 : Int) : get (K + 1) x0 x1 x2 x3 =
  get_j0 K K x1 x2 x3 x0 := by kernel_rfl
theorem get_j0_eq (K k : Nat) (x0 : Pf) (x1 : Int) (x2 : Int) (h : Hp) : get_j0 K (k + 1) x0 x1 x2 h =
  chk (Bool.not (pnil x0)) (chk (Bool.not (pnil x0)) (Option.bind ((Hp.ld h (.sr) (padd 0 x0))) fun r0 =>
  chk (leI (0 : Int) x1) (chk (ltI x1 ((rlen r0) : Int)) (Option.bind ((Hp.ld h (.sr) (radr 1 (Int.toNat x1) r0))) fun r1 =>
  chk (Bool.not (eqI (2 : Int) (0 : Int))) (chk (leI (0 : Int) (IntKind.wrap IntKind.i64 (Int.tdiv (IntKind.wrap IntKind.i64 (x1 + x2)) (2 : Int)))) (chk (ltI (IntKind.wrap IntKind.i64 (Int.tdiv (IntKind.wrap IntKind.i64 (x1 + x2)) (2 : Int))) ((rlen r1) : Int)) (Option.bind ((Hp.ld h (.p (.int (.i64))) (radr 1 (Int.toNat (IntKind.wrap IntKind.i64 (Int.tdiv (IntKind.wrap IntKind.i64 (x1 + x2)) (2 : Int)))) r1))) fun r2 =>
  some (h, r2)))))))) := by kernel_rfl
theorem sort_eq (K : Nat) (x0 : Hp) (x1 : Rf) : sort (K + 1) x0 x1 =
  Option.bind (zzSort K x0 x1 (106, [])) fun r0 =>
  some (r0, x1) := by kernel_rfl
theorem ok_eq (K : Nat) (x0 : Int) (x1 : Int) : ok (K + 1) x0 x1 =
  br (leI (0 : Int) x0)
  (br (leI (IntKind.wrap IntKind.i64 ((0 : Int) - x0)) x1)
   (some (leI x1 x0))
   (some Bool.false))
  (some Bool.false) := by kernel_rfl
theorem forward_eq (K : Nat) (x0 : Hp) (x1 : Pf) : forward (K + 1) x0 x1 =
  chk (Bool.not (pnil x1)) (chk (Bool.not (pnil x1)) (Option.bind ((Hp.ld x0 (.p (.int (.i64))) (padd 4 x1))) fun r0 =>
  Option.bind (setForward K x0 x1 (0 : Int) (0 : Int) r0) fun r1 =>
  Option.bind (fdone K r1 x1 (0 : Int) (0 : Int)) fun r2 =>
  br ((r2).2).1
  (some ((r2).1, ((r2).2).2))
  (forward_j0 K K x1 (r2).1))) := by kernel_rfl
theorem forward_j0_eq (K k : Nat) (x0 : Pf) (h : Hp) : forward_j0 K (k + 1) x0 h =
  chk (Bool.not (pnil x0)) (chk (Bool.not (pnil x0)) (Option.bind ((Hp.ld h (.p (.int (.i64))) (padd 3 x0))) fun r0 =>
  forward_l0 K k x0 r0 (0 : Int) h)) := by kernel_rfl
theorem forward_l0_eq (K k : Nat) (x0 : Pf) (x36 : Int) (x37 : Int) (h : Hp) : forward_l0 K (k + 1) x0 x36 x37 h =
  br (ltI x37 x36)
  (forward_j1 K k x0 x36 x37 h)
  (forward_j2 K k x0 h) := by kernel_rfl
theorem forward_j1_eq (K k : Nat) (x0 : Pf) (x36 : Int) (x37 : Int) (h : Hp) : forward_j1 K (k + 1) x0 x36 x37 h =
  Option.bind (getForward K h x0 x37 (IntKind.wrap IntKind.i64 ((0 : Int) - x37))) fun r0 =>
  Option.bind (setForward K (r0).1 x0 (IntKind.wrap IntKind.i64 (x37 + (1 : Int))) (IntKind.wrap IntKind.i64 ((0 : Int) - (IntKind.wrap IntKind.i64 (x37 + (1 : Int))))) (r0).2) fun r1 =>
  Option.bind (fdone K r1 x0 (IntKind.wrap IntKind.i64 (x37 + (1 : Int))) (IntKind.wrap IntKind.i64 ((0 : Int) - (IntKind.wrap IntKind.i64 (x37 + (1 : Int)))))) fun r2 =>
  br ((r2).2).1
  (some ((r2).1, ((r2).2).2))
  (forward_j3 K k x0 x37 x36 x37 (r2).1) := by kernel_rfl
theorem forward_j3_eq (K k : Nat) (x0 : Pf) (x5 : Int) (x36 : Int) (x37 : Int) (h : Hp) : forward_j3 K (k + 1) x0 x5 x36 x37 h =
  Option.bind (getForward K h x0 x5 x5) fun r0 =>
  Option.bind (setForward K (r0).1 x0 (IntKind.wrap IntKind.i64 (x5 + (1 : Int))) (IntKind.wrap IntKind.i64 (x5 + (1 : Int))) (IntKind.wrap IntKind.i64 ((r0).2 + (1 : Int)))) fun r1 =>
  Option.bind (fdone K r1 x0 (IntKind.wrap IntKind.i64 (x5 + (1 : Int))) (IntKind.wrap IntKind.i64 (x5 + (1 : Int)))) fun r2 =>
  br ((r2).2).1
  (some ((r2).1, ((r2).2).2))
  (forward_j4 K k x0 x5 x36 x37 (r2).1) := by kernel_rfl
theorem forward_j4_eq (K k : Nat) (x0 : Pf) (x5 : Int) (x36 : Int) (x37 : Int) (h : Hp) : forward_j4 K (k + 1) x0 x5 x36 x37 h =
  forward_l2 K k x0 x5 (IntKind.wrap IntKind.i64 ((IntKind.wrap IntKind.i64 ((0 : Int) - x5)) + (1 : Int))) x36 x37 h := by kernel_rfl
theorem forward_l2_eq (K k : Nat) (x0 : Pf) (x5 : Int) (x10 : Int) (x36 : Int) (x37 : Int) (h : Hp) : forward_l2 K (k + 1) x0 x5 x10 x36 x37 h =
  br (leI x10 (IntKind.wrap IntKind.i64 (x5 - (1 : Int))))
  (forward_j8 K k x0 x5 x10 x36 x37 h)
  (forward_l0 K k x0 x36 (IntKind.wrap IntKind.i64 (x37 + (1 : Int))) h) := by kernel_rfl
theorem forward_j8_eq (K k : Nat) (x0 : Pf) (x5 : Int) (x10 : Int) (x36 : Int) (x37 : Int) (h : Hp) : forward_j8 K (k + 1) x0 x5 x10 x36 x37 h =
  Option.bind (getForward K h x0 x5 (IntKind.wrap IntKind.i64 (x10 - (1 : Int)))) fun r0 =>
  Option.bind (lookForward K (r0).1 x0 x10 (IntKind.wrap IntKind.i64 ((r0).2 + (1 : Int)))) fun r1 =>
  Option.bind (getForward K (r1).1 x0 x5 (IntKind.wrap IntKind.i64 (x10 + (1 : Int)))) fun r2 =>
  Option.bind (lookForward K (r2).1 x0 x10 (r2).2) fun r3 =>
  br (ltI (r3).2 (r1).2)
  (Option.bind (setForward K (r3).1 x0 (IntKind.wrap IntKind.i64 (x5 + (1 : Int))) x10 (r1).2) fun r4 =>
   forward_j9 K k x0 x5 x10 x36 x37 r4)
  (Option.bind (setForward K (r3).1 x0 (IntKind.wrap IntKind.i64 (x5 + (1 : Int))) x10 (r3).2) fun r4 =>
   forward_j9 K k x0 x5 x10 x36 x37 r4) := by kernel_rfl
theorem forward_j9_eq (K k : Nat) (x0 : Pf) (x5 : Int) (x10 : Int) (x36 : Int) (x37 : Int) (h : Hp) : forward_j9 K (k + 1) x0 x5 x10 x36 x37 h =
  Option.bind (fdone K h x0 (IntKind.wrap IntKind.i64 (x5 + (1 : Int))) x10) fun r0 =>
  br ((r0).2).1
  (some ((r0).1, ((r0).2).2))
  (forward_l2 K k x0 x5 (IntKind.wrap IntKind.i64 (x10 + (2 : Int))) x36 x37 (r0).1) := by kernel_rfl
theorem prepend_eq (K : Nat) (x0 : Hp) (x1 : Rf) (x2 : Int) (x3 : Int) : prepend (K + 1) x0 x1 x2 x3 =
  br (ltI (0 : Int) ((rlen x1) : Int))
  (chk (leI (0 : Int) (0 : Int)) (chk (ltI (0 : Int) ((rlen x1) : Int)) (chk (Bool.not (pnil (radr 3 (Int.toNat (0 : Int)) x1))) (chk (Bool.not (pnil (radr 3 (Int.toNat (0 : Int)) x1))) (Option.bind ((Hp.ld x0 (.p (.int (.i64))) (padd 0 (radr 3 (Int.toNat (0 : Int)) x1)))) fun r0 =>
   br (eqI r0 (IntKind.wrap IntKind.i64 (x2 + (1 : Int))))
   (chk (Bool.not (pnil (radr 3 (Int.toNat (0 : Int)) x1))) (chk (Bool.not (pnil (radr 3 (Int.toNat (0 : Int)) x1))) (Option.bind ((Hp.ld x0 (.p (.int (.i64))) (padd 1 (radr 3 (Int.toNat (0 : Int)) x1)))) fun r1 =>
    prepend_j0 K K x1 x2 x3 (radr 3 (Int.toNat (0 : Int)) x1) (eqI r1 (IntKind.wrap IntKind.i64 (x3 + (1 : Int)))) x0)))
   (prepend_j0 K K x1 x2 x3 (radr 3 (Int.toNat (0 : Int)) x1) Bool.false x0))))))
  (prepend_j1 K K x1 x2 x3 x0) := by kernel_rfl
theorem prepend_j0_eq (K k : Nat) (x0 : Rf) (x1 : Int) (x2 : Int) (x7 : Pf) (x29 : Bool) (h : Hp) : prepend_j0 K (k + 1) x0 x1 x2 x7 x29 h =
  br x29
  (chk (Bool.not (pnil x7)) (chk (Bool.not (pnil x7)) (Option.bind ((Hp.st h (.p (.int (.i64))) (padd 0 x7) x1)) fun r0 =>
   chk (Bool.not (pnil x7)) (chk (Bool.not (pnil x7)) (Option.bind ((Hp.st r0 (.p (.int (.i64))) (padd 1 x7) x2)) fun r1 =>
   chk (Bool.not (pnil x7)) (chk (Bool.not (pnil x7)) (Option.bind ((Hp.ld r1 (.p (.int (.i64))) (padd 2 x7))) fun r2 =>
   chk (Bool.not (pnil x7)) (chk (Bool.not (pnil x7)) (Option.bind ((Hp.st r1 (.p (.int (.i64))) (padd 2 x7) (IntKind.wrap IntKind.i64 (r2 + (1 : Int))))) fun r3 =>
   some (r3, x0))))))))))
  (prepend_j1 K k x0 x1 x2 h) := by kernel_rfl
theorem prepend_j1_eq (K k : Nat) (x0 : Rf) (x1 : Int) (x2 : Int) (h : Hp) : prepend_j1 K (k + 1) x0 x1 x2 h =
  Option.bind ((Hp.cs (Hp.new h (154 : TypeId) (.p TS2) ((x1, (x2, (1 : Int))) :: [])) 3 x0)) fun r0 =>
  chk (ltI (((rlen (Rf.at (h).1 0 1)) : Int) + ((r0).2 : Int)) (1000000000000 : Int)) (Option.bind ((Hp.app (Hp.new h (154 : TypeId) (.p TS2) ((x1, (x2, (1 : Int))) :: [])) (154 : TypeId) 3 (r0).1 (r0).2 (Rf.at (h).1 0 1))) fun r1 =>
  some ((r1).2, (r1).1)) := by kernel_rfl
theorem append_eq (K : Nat) (x0 : Hp) (x1 : Rf) (x2 : Int) (x3 : Int) : append (K + 1) x0 x1 x2 x3 =
  br (ltI (0 : Int) ((rlen x1) : Int))
  (chk (leI (0 : Int) (IntKind.wrap IntKind.i64 (((rlen x1) : Int) - (1 : Int)))) (chk (ltI (IntKind.wrap IntKind.i64 (((rlen x1) : Int) - (1 : Int))) ((rlen x1) : Int)) (chk (Bool.not (pnil (radr 3 (Int.toNat (IntKind.wrap IntKind.i64 (((rlen x1) : Int) - (1 : Int)))) x1))) (chk (Bool.not (pnil (radr 3 (Int.toNat (IntKind.wrap IntKind.i64 (((rlen x1) : Int) - (1 : Int)))) x1))) (Option.bind ((Hp.ld x0 (.p (.int (.i64))) (padd 0 (radr 3 (Int.toNat (IntKind.wrap IntKind.i64 (((rlen x1) : Int) - (1 : Int)))) x1)))) fun r0 =>
   chk (Bool.not (pnil (radr 3 (Int.toNat (IntKind.wrap IntKind.i64 (((rlen x1) : Int) - (1 : Int)))) x1))) (chk (Bool.not (pnil (radr 3 (Int.toNat (IntKind.wrap IntKind.i64 (((rlen x1) : Int) - (1 : Int)))) x1))) (Option.bind ((Hp.ld x0 (.p (.int (.i64))) (padd 2 (radr 3 (Int.toNat (IntKind.wrap IntKind.i64 (((rlen x1) : Int) - (1 : Int)))) x1)))) fun r1 =>
   br (eqI (IntKind.wrap IntKind.i64 (r0 + r1)) x2)
   (chk (Bool.not (pnil (radr 3 (Int.toNat (IntKind.wrap IntKind.i64 (((rlen x1) : Int) - (1 : Int)))) x1))) (chk (Bool.not (pnil (radr 3 (Int.toNat (IntKind.wrap IntKind.i64 (((rlen x1) : Int) - (1 : Int)))) x1))) (Option.bind ((Hp.ld x0 (.p (.int (.i64))) (padd 1 (radr 3 (Int.toNat (IntKind.wrap IntKind.i64 (((rlen x1) : Int) - (1 : Int)))) x1)))) fun r2 =>
    chk (Bool.not (pnil (radr 3 (Int.toNat (IntKind.wrap IntKind.i64 (((rlen x1) : Int) - (1 : Int)))) x1))) (chk (Bool.not (pnil (radr 3 (Int.toNat (IntKind.wrap IntKind.i64 (((rlen x1) : Int) - (1 : Int)))) x1))) (Option.bind ((Hp.ld x0 (.p (.int (.i64))) (padd 2 (radr 3 (Int.toNat (IntKind.wrap IntKind.i64 (((rlen x1) : Int) - (1 : Int)))) x1)))) fun r3 =>
    append_j0 K K x1 x2 x3 (radr 3 (Int.toNat (IntKind.wrap IntKind.i64 (((rlen x1) : Int) - (1 : Int)))) x1) (eqI (IntKind.wrap IntKind.i64 (r2 + r3)) x3) x0)))))
   (append_j0 K K x1 x2 x3 (radr 3 (Int.toNat (IntKind.wrap IntKind.i64 (((rlen x1) : Int) - (1 : Int)))) x1) Bool.false x0))))))))
  (append_j1 K K x1 x2 x3 x0) := by kernel_rfl
theorem append_j0_eq (K k : Nat) (x0 : Rf) (x1 : Int) (x2 : Int) (x7 : Pf) (x39 : Bool) (h : Hp) : append_j0 K (k + 1) x0 x1 x2 x7 x39 h =
  br x39
  (chk (Bool.not (pnil x7)) (chk (Bool.not (pnil x7)) (Option.bind ((Hp.ld h (.p (.int (.i64))) (padd 2 x7))) fun r0 =>
   chk (Bool.not (pnil x7)) (chk (Bool.not (pnil x7)) (Option.bind ((Hp.st h (.p (.int (.i64))) (padd 2 x7) (IntKind.wrap IntKind.i64 (r0 + (1 : Int))))) fun r1 =>
   some (r1, x0))))))
  (append_j1 K k x0 x1 x2 h) := by kernel_rfl
end Go.Proofs.Ytfglahmbnnkijaa.E
