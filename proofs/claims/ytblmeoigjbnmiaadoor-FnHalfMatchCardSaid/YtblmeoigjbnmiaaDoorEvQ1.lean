import Derived.Test.YtblmeoigjbnmiaaDoorEvT
/- Written by a program of this session (wip/ev4dev): what the functions' places evaluate to. Not trusted: Lean checks it. -/
set_option linter.unusedVariables false
namespace Go.Proofs.YtblmeoigjbnmiaaDoor.E
open Go.Ev
theorem splice_l0_eq (K k : Nat) (x0 : List (TS1.den)) (x9 : Int) (a10 : Int) (b10 : Int) (x55 : Int) (x56 : Int) : splice_l0 K (k + 1) x0 x9 a10 b10 x55 x56 =
  br (ltI x56 x55)
  (splice_j2 K k x0 x9 a10 b10 x55 x56)
  (chk (leI (0 : Int) (0 : Int)) (chk (leI (0 : Int) x9) (chk (leI x9 ((List.length x0) : Int)) (some (List.take (Int.toNat x9) x0))))) := by kernel_rfl
theorem splice_j1_eq (K k : Nat) (x0 : List (TS1.den)) (x1 : Int) (x2 : Int) (x3 : List (TS1.den)) : splice_j1 K (k + 1) x0 x1 x2 x3 =
  splice_l1 K k x0 x1 x2 x3 (IntKind.wrap IntKind.i64 ((IntKind.wrap IntKind.i64 (((List.length x0) : Int) - x2)) + ((List.length x3) : Int))) := by kernel_rfl
theorem splice_j2_eq (K k : Nat) (x0 : List (TS1.den)) (x9 : Int) (a10 : Int) (b10 : Int) (x55 : Int) (x56 : Int) : splice_j2 K (k + 1) x0 x9 a10 b10 x55 x56 =
  chk (leI (0 : Int) x56) (chk (ltI x56 (b10 - a10)) (splice_l0 K k (List.set x0 (Int.toNat (a10 + x56)) ((0 : Int), (ByteArray.mk (List.toArray [])))) x9 a10 b10 x55 (IntKind.wrap IntKind.i64 (x56 + (1 : Int))))) := by kernel_rfl
theorem splice_l1_eq (K k : Nat) (x0 : List (TS1.den)) (x1 : Int) (x2 : Int) (x3 : List (TS1.den)) (x12 : Int) : splice_l1 K (k + 1) x0 x1 x2 x3 x12 =
  br (ltI ((List.length x0) : Int) x12)
  (splice_j3 K k x0 x1 x2 x3 x12)
  (splice_j4 K k x0 x1 x2 x3) := by kernel_rfl
theorem splice_j3_eq (K k : Nat) (x0 : List (TS1.den)) (x1 : Int) (x2 : Int) (x3 : List (TS1.den)) (x12 : Int) : splice_j3 K (k + 1) x0 x1 x2 x3 x12 =
  chk (ltI (((List.length x0) : Int) + ((List.length (((0 : Int), (ByteArray.mk (List.toArray []))) :: [])) : Int)) (1000000000000 : Int)) (splice_l1 K k (x0 ++ (((0 : Int), (ByteArray.mk (List.toArray []))) :: [])) x1 x2 x3 x12) := by kernel_rfl
theorem splice_j4_eq (K k : Nat) (x0 : List (TS1.den)) (x1 : Int) (x2 : Int) (x3 : List (TS1.den)) : splice_j4 K (k + 1) x0 x1 x2 x3 =
  chk (leI (0 : Int) (IntKind.wrap IntKind.i64 (x1 + ((List.length x3) : Int)))) (chk (leI (IntKind.wrap IntKind.i64 (x1 + ((List.length x3) : Int))) ((List.length x0) : Int)) (chk (leI ((List.length x0) : Int) ((List.length x0) : Int)) (chk (leI (0 : Int) (IntKind.wrap IntKind.i64 (x1 + x2))) (chk (leI (IntKind.wrap IntKind.i64 (x1 + x2)) ((List.length x0) : Int)) (chk (leI ((List.length x0) : Int) ((List.length x0) : Int)) (chk (leI (0 : Int) x1) (chk (leI x1 ((List.length (cpL x0 (List.take ((Int.toNat ((List.length x0) : Int)) - (Int.toNat (IntKind.wrap IntKind.i64 (x1 + x2)))) (List.drop (Int.toNat (IntKind.wrap IntKind.i64 (x1 + x2))) x0)) (Int.toNat (IntKind.wrap IntKind.i64 (x1 + ((List.length x3) : Int)))) (Int.toNat (((List.length x0) : Int) - (IntKind.wrap IntKind.i64 (x1 + ((List.length x3) : Int))))))) : Int)) (chk (leI ((List.length (cpL x0 (List.take ((Int.toNat ((List.length x0) : Int)) - (Int.toNat (IntKind.wrap IntKind.i64 (x1 + x2)))) (List.drop (Int.toNat (IntKind.wrap IntKind.i64 (x1 + x2))) x0)) (Int.toNat (IntKind.wrap IntKind.i64 (x1 + ((List.length x3) : Int)))) (Int.toNat (((List.length x0) : Int) - (IntKind.wrap IntKind.i64 (x1 + ((List.length x3) : Int))))))) : Int) ((List.length (cpL x0 (List.take ((Int.toNat ((List.length x0) : Int)) - (Int.toNat (IntKind.wrap IntKind.i64 (x1 + x2)))) (List.drop (Int.toNat (IntKind.wrap IntKind.i64 (x1 + x2))) x0)) (Int.toNat (IntKind.wrap IntKind.i64 (x1 + ((List.length x3) : Int)))) (Int.toNat (((List.length x0) : Int) - (IntKind.wrap IntKind.i64 (x1 + ((List.length x3) : Int))))))) : Int)) (some (cpL (cpL x0 (List.take ((Int.toNat ((List.length x0) : Int)) - (Int.toNat (IntKind.wrap IntKind.i64 (x1 + x2)))) (List.drop (Int.toNat (IntKind.wrap IntKind.i64 (x1 + x2))) x0)) (Int.toNat (IntKind.wrap IntKind.i64 (x1 + ((List.length x3) : Int)))) (Int.toNat (((List.length x0) : Int) - (IntKind.wrap IntKind.i64 (x1 + ((List.length x3) : Int)))))) x3 (Int.toNat x1) (Int.toNat (((List.length (cpL x0 (List.take ((Int.toNat ((List.length x0) : Int)) - (Int.toNat (IntKind.wrap IntKind.i64 (x1 + x2)))) (List.drop (Int.toNat (IntKind.wrap IntKind.i64 (x1 + x2))) x0)) (Int.toNat (IntKind.wrap IntKind.i64 (x1 + ((List.length x3) : Int)))) (Int.toNat (((List.length x0) : Int) - (IntKind.wrap IntKind.i64 (x1 + ((List.length x3) : Int))))))) : Int) - x1)))))))))))) := by kernel_rfl
theorem commonPrefixLength_eq (K : Nat) (x0 : List Int) (x1 : List Int) : commonPrefixLength (K + 1) x0 x1 =
  commonPrefixLength_l0 K K x0 x1 (0 : Int) := by kernel_rfl
theorem commonPrefixLength_l0_eq (K k : Nat) (x0 : List (Int)) (x1 : List (Int)) (x5 : Int) : commonPrefixLength_l0 K (k + 1) x0 x1 x5 =
  br (ltI x5 ((List.length x0) : Int))
  (br (ltI x5 ((List.length x1) : Int))
   (commonPrefixLength_j0 K k x0 x1 x5)
   (some x5))
  (some x5) := by kernel_rfl
theorem commonPrefixLength_j0_eq (K k : Nat) (x0 : List (Int)) (x1 : List (Int)) (x5 : Int) : commonPrefixLength_j0 K (k + 1) x0 x1 x5 =
  chk (leI (0 : Int) x5) (chk (ltI x5 ((List.length x0) : Int)) (chk (leI (0 : Int) x5) (chk (ltI x5 ((List.length x1) : Int)) (br (Bool.not (eqI (nth (.int (.i32)) x0 x5) (nth (.int (.i32)) x1 x5)))
  (some x5)
  (commonPrefixLength_l0 K k x0 x1 (IntKind.wrap IntKind.i64 (x5 + (1 : Int)))))))) := by kernel_rfl
theorem commonSuffixLength_eq (K : Nat) (x0 : List Int) (x1 : List Int) : commonSuffixLength (K + 1) x0 x1 =
  commonSuffixLength_l0 K K x0 x1 ((List.length x0) : Int) ((List.length x1) : Int) (0 : Int) := by kernel_rfl
theorem commonSuffixLength_l0_eq (K k : Nat) (x0 : List (Int)) (x1 : List (Int)) (x5 : Int) (x6 : Int) (x7 : Int) : commonSuffixLength_l0 K (k + 1) x0 x1 x5 x6 x7 =
  br (ltI (IntKind.wrap IntKind.i64 (x5 - (1 : Int))) (0 : Int))
  (commonSuffixLength_j0 K k x0 x1 (IntKind.wrap IntKind.i64 (x5 - (1 : Int))) (IntKind.wrap IntKind.i64 (x6 - (1 : Int))) x7 Bool.true)
  (br (ltI (IntKind.wrap IntKind.i64 (x6 - (1 : Int))) (0 : Int))
   (commonSuffixLength_j0 K k x0 x1 (IntKind.wrap IntKind.i64 (x5 - (1 : Int))) (IntKind.wrap IntKind.i64 (x6 - (1 : Int))) x7 Bool.true)
   (chk (leI (0 : Int) (IntKind.wrap IntKind.i64 (x5 - (1 : Int)))) (chk (ltI (IntKind.wrap IntKind.i64 (x5 - (1 : Int))) ((List.length x0) : Int)) (chk (leI (0 : Int) (IntKind.wrap IntKind.i64 (x6 - (1 : Int)))) (chk (ltI (IntKind.wrap IntKind.i64 (x6 - (1 : Int))) ((List.length x1) : Int)) (commonSuffixLength_j0 K k x0 x1 (IntKind.wrap IntKind.i64 (x5 - (1 : Int))) (IntKind.wrap IntKind.i64 (x6 - (1 : Int))) x7 (Bool.not (eqI (nth (.int (.i32)) x0 (IntKind.wrap IntKind.i64 (x5 - (1 : Int)))) (nth (.int (.i32)) x1 (IntKind.wrap IntKind.i64 (x6 - (1 : Int)))))))))))) := by kernel_rfl
theorem commonSuffixLength_j0_eq (K k : Nat) (x0 : List (Int)) (x1 : List (Int)) (x5 : Int) (x6 : Int) (x7 : Int) (x34 : Bool) : commonSuffixLength_j0 K (k + 1) x0 x1 x5 x6 x7 x34 =
  br x34
  (some x7)
  (commonSuffixLength_l0 K k x0 x1 x5 x6 (IntKind.wrap IntKind.i64 (x7 + (1 : Int)))) := by kernel_rfl
theorem strings_HasSuffix_eq (K : Nat) (x0 : ByteArray) (x1 : ByteArray) : strings_HasSuffix (K + 1) x0 x1 =
  Option.bind (stringslite_HasSuffix K x0 x1) fun r0 =>
  some r0 := by kernel_rfl
theorem strings_HasPrefix_eq (K : Nat) (x0 : ByteArray) (x1 : ByteArray) : strings_HasPrefix (K + 1) x0 x1 =
  Option.bind (stringslite_HasPrefix K x0 x1) fun r0 =>
  some r0 := by kernel_rfl
theorem diffHalfMatchI_eq (K : Nat) (x0 : Hp) (x2 : Rf) (x3 : Rf) (x4 : Int) : diffHalfMatchI (K + 1) x0 x2 x3 x4 =
  chk (Bool.not (eqI (4 : Int) (0 : Int))) (chk (leI (0 : Int) x4) (chk (leI x4 (IntKind.wrap IntKind.i64 (x4 + (IntKind.wrap IntKind.i64 (Int.tdiv ((rlen x2) : Int) (4 : Int)))))) (chk (leI (IntKind.wrap IntKind.i64 (x4 + (IntKind.wrap IntKind.i64 (Int.tdiv ((rlen x2) : Int) (4 : Int))))) ((rlen x2) : Int)) (Option.bind ((Hp.rd x0 (.int (.i32)) x3)) fun r0 =>
  Option.bind ((Hp.rd x0 (.int (.i32)) (rcut 1 (Int.toNat x4) (Int.toNat (IntKind.wrap IntKind.i64 (x4 + (IntKind.wrap IntKind.i64 (Int.tdiv ((rlen x2) : Int) (4 : Int)))))) x2))) fun r1 =>
  Option.bind (runesIndexOf K r0 r1 (0 : Int)) fun r2 =>
  diffHalfMatchI_l0 K K x2 x3 x4 [] [] (0 : Int) [] [] [] [] (rcut 1 (Int.toNat x4) (Int.toNat (IntKind.wrap IntKind.i64 (x4 + (IntKind.wrap IntKind.i64 (Int.tdiv ((rlen x2) : Int) (4 : Int)))))) x2) r2 x0)))) := by kernel_rfl
theorem diffHalfMatchI_l0_eq (K k : Nat) (x1 : Rf) (x2 : Rf) (x3 : Int) (x9 : List (Int)) (x10 : List (Int)) (x11 : Int) (x12 : List (Int)) (x13 : List (Int)) (x14 : List (Int)) (x15 : List (Int)) (x16 : Rf) (x17 : Int) (h : Hp) : diffHalfMatchI_l0 K (k + 1) x1 x2 x3 x9 x10 x11 x12 x13 x14 x15 x16 x17 h =
  br (Bool.not (eqI x17 (-(1 : Int))))
  (diffHalfMatchI_j0 K k x1 x2 x3 x9 x10 x11 x12 x13 x14 x15 x16 x17 h)
  (diffHalfMatchI_j1 K k x1 x9 x10 x11 x12 x13 x14 x15 h) := by kernel_rfl
theorem diffHalfMatchI_j0_eq (K k : Nat) (x1 : Rf) (x2 : Rf) (x3 : Int) (x9 : List (Int)) (x10 : List (Int)) (x11 : Int) (x12 : List (Int)) (x13 : List (Int)) (x14 : List (Int)) (x15 : List (Int)) (x16 : Rf) (x17 : Int) (h : Hp) : diffHalfMatchI_j0 K (k + 1) x1 x2 x3 x9 x10 x11 x12 x13 x14 x15 x16 x17 h =
  chk (leI (0 : Int) x3) (chk (leI x3 ((rlen x1) : Int)) (chk (leI ((rlen x1) : Int) ((rlen x1) : Int)) (chk (leI (0 : Int) x17) (chk (leI x17 ((rlen x2) : Int)) (chk (leI ((rlen x2) : Int) ((rlen x2) : Int)) (Option.bind ((Hp.rd h (.int (.i32)) (rcut 1 (Int.toNat x3) (Int.toNat ((rlen x1) : Int)) x1))) fun r0 =>
  Option.bind ((Hp.rd h (.int (.i32)) (rcut 1 (Int.toNat x17) (Int.toNat ((rlen x2) : Int)) x2))) fun r1 =>
  Option.bind (commonPrefixLength K r0 r1) fun r2 =>
  chk (leI (0 : Int) (0 : Int)) (chk (leI (0 : Int) x3) (chk (leI x3 ((rlen x1) : Int)) (chk (leI (0 : Int) (0 : Int)) (chk (leI (0 : Int) x17) (chk (leI x17 ((rlen x2) : Int)) (Option.bind ((Hp.rd h (.int (.i32)) (rcut 1 (Int.toNat (0 : Int)) (Int.toNat x3) x1))) fun r3 =>
  Option.bind ((Hp.rd h (.int (.i32)) (rcut 1 (Int.toNat (0 : Int)) (Int.toNat x17) x2))) fun r4 =>
  Option.bind (commonSuffixLength K r3 r4) fun r5 =>
  br (ltI x11 (IntKind.wrap IntKind.i64 (r5 + r2)))
  (chk (leI (0 : Int) (IntKind.wrap IntKind.i64 (x17 - r5))) (chk (leI (IntKind.wrap IntKind.i64 (x17 - r5)) x17) (chk (leI x17 ((rlen x2) : Int)) (chk (leI (0 : Int) x17) (chk (leI x17 (IntKind.wrap IntKind.i64 (x17 + r2))) (chk (leI (IntKind.wrap IntKind.i64 (x17 + r2)) ((rlen x2) : Int)) (chk (leI (0 : Int) (0 : Int)) (chk (leI (0 : Int) (IntKind.wrap IntKind.i64 (x3 - r5))) (chk (leI (IntKind.wrap IntKind.i64 (x3 - r5)) ((rlen x1) : Int)) (chk (leI (0 : Int) (IntKind.wrap IntKind.i64 (x3 + r2))) (chk (leI (IntKind.wrap IntKind.i64 (x3 + r2)) ((rlen x1) : Int)) (chk (leI ((rlen x1) : Int) ((rlen x1) : Int)) (chk (leI (0 : Int) (0 : Int)) (chk (leI (0 : Int) (IntKind.wrap IntKind.i64 (x17 - r5))) (chk (leI (IntKind.wrap IntKind.i64 (x17 - r5)) ((rlen x2) : Int)) (chk (leI (0 : Int) (IntKind.wrap IntKind.i64 (x17 + r2))) (chk (leI (IntKind.wrap IntKind.i64 (x17 + r2)) ((rlen x2) : Int)) (chk (leI ((rlen x2) : Int) ((rlen x2) : Int)) (diffHalfMatchI_j2 K k x1 x2 x3 (rcut 1 (Int.toNat (IntKind.wrap IntKind.i64 (x17 - r5))) (Int.toNat x17) x2) (rcut 1 (Int.toNat x17) (Int.toNat (IntKind.wrap IntKind.i64 (x17 + r2))) x2) (IntKind.wrap IntKind.i64 (((rlen (rcut 1 (Int.toNat (IntKind.wrap IntKind.i64 (x17 - r5))) (Int.toNat x17) x2)) : Int) + ((rlen (rcut 1 (Int.toNat x17) (Int.toNat (IntKind.wrap IntKind.i64 (x17 + r2))) x2)) : Int))) (rcut 1 (Int.toNat (0 : Int)) (Int.toNat (IntKind.wrap IntKind.i64 (x3 - r5))) x1) (rcut 1 (Int.toNat (IntKind.wrap IntKind.i64 (x3 + r2))) (Int.toNat ((rlen x1) : Int)) x1) (rcut 1 (Int.toNat (0 : Int)) (Int.toNat (IntKind.wrap IntKind.i64 (x17 - r5))) x2) (rcut 1 (Int.toNat (IntKind.wrap IntKind.i64 (x17 + r2))) (Int.toNat ((rlen x2) : Int)) x2) x16 x17 h)))))))))))))))))))
  (diffHalfMatchI_j3 K k x1 x2 x3 x9 x10 x11 x12 x13 x14 x15 x16 x17 h))))))))))))) := by kernel_rfl
theorem diffHalfMatchI_j1_eq (K k : Nat) (x1 : Rf) (x9 : List (Int)) (x10 : List (Int)) (x11 : Int) (x12 : List (Int)) (x13 : List (Int)) (x14 : List (Int)) (x15 : List (Int)) (h : Hp) : diffHalfMatchI_j1 K (k + 1) x1 x9 x10 x11 x12 x13 x14 x15 h =
  br (ltI (IntKind.wrap IntKind.i64 (x11 * (2 : Int))) ((rlen x1) : Int))
  (some (h, Rf.nil))
  (diffHalfMatchI_j4 K k x9 x10 x12 x13 x14 x15 h) := by kernel_rfl
theorem diffHalfMatchI_j2_eq (K k : Nat) (x1 : Rf) (x2 : Rf) (x3 : Int) (x9 : Rf) (x10 : Rf) (x11 : Int) (x12 : Rf) (x13 : Rf) (x14 : Rf) (x15 : Rf) (x16 : Rf) (x17 : Int) (h : Hp) : diffHalfMatchI_j2 K (k + 1) x1 x2 x3 x9 x10 x11 x12 x13 x14 x15 x16 x17 h =
  Option.bind ((Hp.rd h (.int (.i32)) x2)) fun r0 =>
  Option.bind ((Hp.rd h (.int (.i32)) x16)) fun r1 =>
  Option.bind (runesIndexOf K r0 r1 (IntKind.wrap IntKind.i64 (x17 + (1 : Int)))) fun r2 =>
  diffHalfMatchI_l1 K k x1 x2 x3 x9 x10 x11 x12 x13 x14 x15 x16 r2 h := by kernel_rfl
theorem diffHalfMatchI_j3_eq (K k : Nat) (x1 : Rf) (x2 : Rf) (x3 : Int) (x9 : List (Int)) (x10 : List (Int)) (x11 : Int) (x12 : List (Int)) (x13 : List (Int)) (x14 : List (Int)) (x15 : List (Int)) (x16 : Rf) (x17 : Int) (h : Hp) : diffHalfMatchI_j3 K (k + 1) x1 x2 x3 x9 x10 x11 x12 x13 x14 x15 x16 x17 h =
  Option.bind ((Hp.rd h (.int (.i32)) x2)) fun r0 =>
  Option.bind ((Hp.rd h (.int (.i32)) x16)) fun r1 =>
  Option.bind (runesIndexOf K r0 r1 (IntKind.wrap IntKind.i64 (x17 + (1 : Int)))) fun r2 =>
  diffHalfMatchI_l0 K k x1 x2 x3 x9 x10 x11 x12 x13 x14 x15 x16 r2 h := by kernel_rfl
theorem diffHalfMatchI_j4_eq (K k : Nat) (x9 : List (Int)) (x10 : List (Int)) (x12 : List (Int)) (x13 : List (Int)) (x14 : List (Int)) (x15 : List (Int)) (h : Hp) : diffHalfMatchI_j4 K (k + 1) x9 x10 x12 x13 x14 x15 h =
  chk (ltI (((List.length x9) : Int) + ((List.length x10) : Int)) (1000000000000 : Int)) (some ((Hp.new (Hp.new (Hp.new (Hp.new (Hp.new (Hp.new h 21 (.p (.int (.i32))) x12) 21 (.p (.int (.i32))) x13) 21 (.p (.int (.i32))) x14) 21 (.p (.int (.i32))) x15) (21 : TypeId) (.p (.int (.i32))) (x9 ++ x10)) (54 : TypeId) (.sr) ((Rf.at (h).1 0 (List.length x12)) :: ((Rf.at (Nat.succ (h).1) 0 (List.length x13)) :: ((Rf.at (Nat.succ (Nat.succ (h).1)) 0 (List.length x14)) :: ((Rf.at (Nat.succ (Nat.succ (Nat.succ (h).1))) 0 (List.length x15)) :: ((Rf.at (Nat.succ (Nat.succ (Nat.succ (Nat.succ (h).1)))) 0 (List.length (x9 ++ x10))) :: [])))))), (Rf.at (Nat.succ (Nat.succ (Nat.succ (Nat.succ (Nat.succ (h).1))))) 0 5))) := by kernel_rfl
theorem diffHalfMatchI_l1_eq (K k : Nat) (x1 : Rf) (x2 : Rf) (x3 : Int) (x9 : Rf) (x10 : Rf) (x11 : Int) (x12 : Rf) (x13 : Rf) (x14 : Rf) (x15 : Rf) (x16 : Rf) (x17 : Int) (h : Hp) : diffHalfMatchI_l1 K (k + 1) x1 x2 x3 x9 x10 x11 x12 x13 x14 x15 x16 x17 h =
  br (Bool.not (eqI x17 (-(1 : Int))))
  (diffHalfMatchI_j5 K k x1 x2 x3 x9 x10 x11 x12 x13 x14 x15 x16 x17 h)
  (diffHalfMatchI_j6 K k x1 x9 x10 x11 x12 x13 x14 x15 h) := by kernel_rfl
theorem diffHalfMatchI_j5_eq (K k : Nat) (x1 : Rf) (x2 : Rf) (x3 : Int) (x9 : Rf) (x10 : Rf) (x11 : Int) (x12 : Rf) (x13 : Rf) (x14 : Rf) (x15 : Rf) (x16 : Rf) (x17 : Int) (h : Hp) : diffHalfMatchI_j5 K (k + 1) x1 x2 x3 x9 x10 x11 x12 x13 x14 x15 x16 x17 h =
  chk (leI (0 : Int) x3) (chk (leI x3 ((rlen x1) : Int)) (chk (leI ((rlen x1) : Int) ((rlen x1) : Int)) (chk (leI (0 : Int) x17) (chk (leI x17 ((rlen x2) : Int)) (chk (leI ((rlen x2) : Int) ((rlen x2) : Int)) (Option.bind ((Hp.rd h (.int (.i32)) (rcut 1 (Int.toNat x3) (Int.toNat ((rlen x1) : Int)) x1))) fun r0 =>
  Option.bind ((Hp.rd h (.int (.i32)) (rcut 1 (Int.toNat x17) (Int.toNat ((rlen x2) : Int)) x2))) fun r1 =>
  Option.bind (commonPrefixLength K r0 r1) fun r2 =>
  chk (leI (0 : Int) (0 : Int)) (chk (leI (0 : Int) x3) (chk (leI x3 ((rlen x1) : Int)) (chk (leI (0 : Int) (0 : Int)) (chk (leI (0 : Int) x17) (chk (leI x17 ((rlen x2) : Int)) (Option.bind ((Hp.rd h (.int (.i32)) (rcut 1 (Int.toNat (0 : Int)) (Int.toNat x3) x1))) fun r3 =>
  Option.bind ((Hp.rd h (.int (.i32)) (rcut 1 (Int.toNat (0 : Int)) (Int.toNat x17) x2))) fun r4 =>
  Option.bind (commonSuffixLength K r3 r4) fun r5 =>
  br (ltI x11 (IntKind.wrap IntKind.i64 (r5 + r2)))
  (chk (leI (0 : Int) (IntKind.wrap IntKind.i64 (x17 - r5))) (chk (leI (IntKind.wrap IntKind.i64 (x17 - r5)) x17) (chk (leI x17 ((rlen x2) : Int)) (chk (leI (0 : Int) x17) (chk (leI x17 (IntKind.wrap IntKind.i64 (x17 + r2))) (chk (leI (IntKind.wrap IntKind.i64 (x17 + r2)) ((rlen x2) : Int)) (chk (leI (0 : Int) (0 : Int)) (chk (leI (0 : Int) (IntKind.wrap IntKind.i64 (x3 - r5))) (chk (leI (IntKind.wrap IntKind.i64 (x3 - r5)) ((rlen x1) : Int)) (chk (leI (0 : Int) (IntKind.wrap IntKind.i64 (x3 + r2))) (chk (leI (IntKind.wrap IntKind.i64 (x3 + r2)) ((rlen x1) : Int)) (chk (leI ((rlen x1) : Int) ((rlen x1) : Int)) (chk (leI (0 : Int) (0 : Int)) (chk (leI (0 : Int) (IntKind.wrap IntKind.i64 (x17 - r5))) (chk (leI (IntKind.wrap IntKind.i64 (x17 - r5)) ((rlen x2) : Int)) (chk (leI (0 : Int) (IntKind.wrap IntKind.i64 (x17 + r2))) (chk (leI (IntKind.wrap IntKind.i64 (x17 + r2)) ((rlen x2) : Int)) (chk (leI ((rlen x2) : Int) ((rlen x2) : Int)) (diffHalfMatchI_j2 K k x1 x2 x3 (rcut 1 (Int.toNat (IntKind.wrap IntKind.i64 (x17 - r5))) (Int.toNat x17) x2) (rcut 1 (Int.toNat x17) (Int.toNat (IntKind.wrap IntKind.i64 (x17 + r2))) x2) (IntKind.wrap IntKind.i64 (((rlen (rcut 1 (Int.toNat (IntKind.wrap IntKind.i64 (x17 - r5))) (Int.toNat x17) x2)) : Int) + ((rlen (rcut 1 (Int.toNat x17) (Int.toNat (IntKind.wrap IntKind.i64 (x17 + r2))) x2)) : Int))) (rcut 1 (Int.toNat (0 : Int)) (Int.toNat (IntKind.wrap IntKind.i64 (x3 - r5))) x1) (rcut 1 (Int.toNat (IntKind.wrap IntKind.i64 (x3 + r2))) (Int.toNat ((rlen x1) : Int)) x1) (rcut 1 (Int.toNat (0 : Int)) (Int.toNat (IntKind.wrap IntKind.i64 (x17 - r5))) x2) (rcut 1 (Int.toNat (IntKind.wrap IntKind.i64 (x17 + r2))) (Int.toNat ((rlen x2) : Int)) x2) x16 x17 h)))))))))))))))))))
  (diffHalfMatchI_j2 K k x1 x2 x3 x9 x10 x11 x12 x13 x14 x15 x16 x17 h))))))))))))) := by kernel_rfl
theorem diffHalfMatchI_j6_eq (K k : Nat) (x1 : Rf) (x9 : Rf) (x10 : Rf) (x11 : Int) (x12 : Rf) (x13 : Rf) (x14 : Rf) (x15 : Rf) (h : Hp) : diffHalfMatchI_j6 K (k + 1) x1 x9 x10 x11 x12 x13 x14 x15 h =
  br (ltI (IntKind.wrap IntKind.i64 (x11 * (2 : Int))) ((rlen x1) : Int))
  (some (h, Rf.nil))
  (diffHalfMatchI_j7 K k x9 x10 x12 x13 x14 x15 h) := by kernel_rfl
theorem diffHalfMatchI_j7_eq (K k : Nat) (x9 : Rf) (x10 : Rf) (x12 : Rf) (x13 : Rf) (x14 : Rf) (x15 : Rf) (h : Hp) : diffHalfMatchI_j7 K (k + 1) x9 x10 x12 x13 x14 x15 h =
  Option.bind ((Hp.cs h 1 x10)) fun r0 =>
  chk (ltI (((rlen x9) : Int) + ((r0).2 : Int)) (1000000000000 : Int)) (Option.bind ((Hp.app h (21 : TypeId) 1 (r0).1 (r0).2 x9)) fun r1 =>
  some ((Hp.new (r1).2 (54 : TypeId) (.sr) (x12 :: (x13 :: (x14 :: (x15 :: ((r1).1 :: [])))))), (Rf.at ((r1).2).1 0 5))) := by kernel_rfl
theorem DiffCommonSuffix_eq (K : Nat) (x0 : TS0.den) (x1 : ByteArray) (x2 : ByteArray) : DiffCommonSuffix (K + 1) x0 x1 x2 =
  chk (nleI (List.length (runesI x1)) 70368744177664) (chk (nleI (List.length (runesI x2)) 70368744177664) (Option.bind (commonSuffixLength K (runesI x1) (runesI x2)) fun r0 =>
  some r0)) := by kernel_rfl
theorem diffCleanupSemanticScore_eq (K : Nat) (x0 : ByteArray) (x1 : ByteArray) : diffCleanupSemanticScore (K + 1) x0 x1 =
  br (eqI ((ByteArray.size x0) : Int) (0 : Int))
  (diffCleanupSemanticScore_j0 K K x0 x1 Bool.true)
  (diffCleanupSemanticScore_j0 K K x0 x1 (eqI ((ByteArray.size x1) : Int) (0 : Int))) := by kernel_rfl
theorem diffCleanupSemanticScore_j0_eq (K k : Nat) (x0 : ByteArray) (x1 : ByteArray) (x24 : Bool) : diffCleanupSemanticScore_j0 K (k + 1) x0 x1 x24 =
  br x24
  (some (6 : Int))
  (diffCleanupSemanticScore_j1 K k x0 x1) := by kernel_rfl
theorem diffCleanupSemanticScore_j1_eq (K k : Nat) (x0 : ByteArray) (x1 : ByteArray) : diffCleanupSemanticScore_j1 K (k + 1) x0 x1 =
  Option.bind (DecodeLastRuneInString K x0) fun r0 =>
  Option.bind (DecodeRuneInString K x1) fun r1 =>
  Option.bind (zzNotAlnum K (r0).1) fun r2 =>
  Option.bind (zzNotAlnum K (r1).1) fun r3 =>
  br r2
  (Option.bind (zzWhite K (r0).1) fun r4 =>
   diffCleanupSemanticScore_j2 K k x0 x1 (r0).1 (r1).1 r2 r3 r4)
  (diffCleanupSemanticScore_j2 K k x0 x1 (r0).1 (r1).1 r2 r3 Bool.false) := by kernel_rfl
theorem diffCleanupSemanticScore_j2_eq (K k : Nat) (x0 : ByteArray) (x1 : ByteArray) (x5 : Int) (x7 : Int) (x9 : Bool) (x10 : Bool) (x11 : Bool) : diffCleanupSemanticScore_j2 K (k + 1) x0 x1 x5 x7 x9 x10 x11 =
  br x10
  (Option.bind (zzWhite K x7) fun r0 =>
   diffCleanupSemanticScore_j3 K k x0 x1 x5 x7 x9 x10 x11 r0)
  (diffCleanupSemanticScore_j3 K k x0 x1 x5 x7 x9 x10 x11 Bool.false) := by kernel_rfl
theorem diffCleanupSemanticScore_j3_eq (K k : Nat) (x0 : ByteArray) (x1 : ByteArray) (x5 : Int) (x7 : Int) (x9 : Bool) (x10 : Bool) (x11 : Bool) (x12 : Bool) : diffCleanupSemanticScore_j3 K (k + 1) x0 x1 x5 x7 x9 x10 x11 x12 =
  br x11
  (Option.bind (zzBreak K x5) fun r0 =>
   diffCleanupSemanticScore_j4 K k x0 x1 x7 x9 x10 x11 x12 r0)
  (diffCleanupSemanticScore_j4 K k x0 x1 x7 x9 x10 x11 x12 Bool.false) := by kernel_rfl
theorem diffCleanupSemanticScore_j4_eq (K k : Nat) (x0 : ByteArray) (x1 : ByteArray) (x7 : Int) (x9 : Bool) (x10 : Bool) (x11 : Bool) (x12 : Bool) (x13 : Bool) : diffCleanupSemanticScore_j4 K (k + 1) x0 x1 x7 x9 x10 x11 x12 x13 =
  br x12
  (Option.bind (zzBreak K x7) fun r0 =>
   diffCleanupSemanticScore_j5 K k x0 x1 x9 x10 x11 x12 x13 r0)
  (diffCleanupSemanticScore_j5 K k x0 x1 x9 x10 x11 x12 x13 Bool.false) := by kernel_rfl
theorem diffCleanupSemanticScore_j5_eq (K k : Nat) (x0 : ByteArray) (x1 : ByteArray) (x9 : Bool) (x10 : Bool) (x11 : Bool) (x12 : Bool) (x13 : Bool) (x14 : Bool) : diffCleanupSemanticScore_j5 K (k + 1) x0 x1 x9 x10 x11 x12 x13 x14 =
  br x13
  (Option.bind (zzBlankEnd K x0) fun r0 =>
   diffCleanupSemanticScore_j6 K k x1 x9 x10 x11 x12 x13 x14 r0)
  (diffCleanupSemanticScore_j6 K k x1 x9 x10 x11 x12 x13 x14 Bool.false) := by kernel_rfl
theorem diffCleanupSemanticScore_j6_eq (K k : Nat) (x1 : ByteArray) (x9 : Bool) (x10 : Bool) (x11 : Bool) (x12 : Bool) (x13 : Bool) (x14 : Bool) (x15 : Bool) : diffCleanupSemanticScore_j6 K (k + 1) x1 x9 x10 x11 x12 x13 x14 x15 =
  br x14
  (Option.bind (zzBlankEnd K x1) fun r0 =>
   diffCleanupSemanticScore_j7 K k x9 x10 x11 x12 x13 x14 x15 r0)
  (diffCleanupSemanticScore_j7 K k x9 x10 x11 x12 x13 x14 x15 Bool.false) := by kernel_rfl
theorem diffCleanupSemanticScore_j7_eq (K k : Nat) (x9 : Bool) (x10 : Bool) (x11 : Bool) (x12 : Bool) (x13 : Bool) (x14 : Bool) (x15 : Bool) (x16 : Bool) : diffCleanupSemanticScore_j7 K (k + 1) x9 x10 x11 x12 x13 x14 x15 x16 =
  br x15
  (diffCleanupSemanticScore_j8 K k x9 x10 x11 x12 x13 x14 Bool.true)
  (diffCleanupSemanticScore_j8 K k x9 x10 x11 x12 x13 x14 x16) := by kernel_rfl
theorem diffCleanupSemanticScore_j8_eq (K k : Nat) (x9 : Bool) (x10 : Bool) (x11 : Bool) (x12 : Bool) (x13 : Bool) (x14 : Bool) (x72 : Bool) : diffCleanupSemanticScore_j8 K (k + 1) x9 x10 x11 x12 x13 x14 x72 =
  br x72
  (some (5 : Int))
  (br x13
   (diffCleanupSemanticScore_j9 K k x9 x10 x11 x12 Bool.true)
   (diffCleanupSemanticScore_j9 K k x9 x10 x11 x12 x14)) := by kernel_rfl
theorem diffCleanupSemanticScore_j9_eq (K k : Nat) (x9 : Bool) (x10 : Bool) (x11 : Bool) (x12 : Bool) (x76 : Bool) : diffCleanupSemanticScore_j9 K (k + 1) x9 x10 x11 x12 x76 =
  br x76
  (some (4 : Int))
  (br x9
   (br (Bool.not x11)
    (diffCleanupSemanticScore_j10 K k x9 x10 x11 x12 x12)
    (diffCleanupSemanticScore_j10 K k x9 x10 x11 x12 Bool.false))
   (diffCleanupSemanticScore_j10 K k x9 x10 x11 x12 Bool.false)) := by kernel_rfl
theorem diffCleanupSemanticScore_j10_eq (K k : Nat) (x9 : Bool) (x10 : Bool) (x11 : Bool) (x12 : Bool) (x84 : Bool) : diffCleanupSemanticScore_j10 K (k + 1) x9 x10 x11 x12 x84 =
  br x84
  (some (3 : Int))
  (br x11
   (diffCleanupSemanticScore_j11 K k x9 x10 Bool.true)
   (diffCleanupSemanticScore_j11 K k x9 x10 x12)) := by kernel_rfl
theorem diffCleanupSemanticScore_j11_eq (K k : Nat) (x9 : Bool) (x10 : Bool) (x88 : Bool) : diffCleanupSemanticScore_j11 K (k + 1) x9 x10 x88 =
  br x88
  (some (2 : Int))
  (br x9
   (diffCleanupSemanticScore_j12 K k Bool.true)
   (diffCleanupSemanticScore_j12 K k x10)) := by kernel_rfl
theorem diffCleanupSemanticScore_j12_eq (K k : Nat) (x92 : Bool) : diffCleanupSemanticScore_j12 K (k + 1) x92 =
  br x92
  (some (1 : Int))
  (some (0 : Int)) := by kernel_rfl
theorem DecodeRuneInString_eq (K : Nat) (x0 : ByteArray) : DecodeRuneInString (K + 1) x0 =
  br (Bool.not (eqS x0 (ByteArray.mk (List.toArray []))))
  (chk (leI (0 : Int) (0 : Int)) (chk (ltI (0 : Int) ((ByteArray.size x0) : Int)) (DecodeRuneInString_j0 K K x0 (ltI (bt x0 (0 : Int)) (128 : Int)))))
  (DecodeRuneInString_j0 K K x0 Bool.false) := by kernel_rfl
theorem DecodeRuneInString_j0_eq (K k : Nat) (x0 : ByteArray) (x10 : Bool) : DecodeRuneInString_j0 K (k + 1) x0 x10 =
  br x10
  (chk (leI (0 : Int) (0 : Int)) (chk (ltI (0 : Int) ((ByteArray.size x0) : Int)) (some ((IntKind.wrap IntKind.i32 (bt x0 (0 : Int))), (1 : Int)))))
  (Option.bind (decodeRuneInStringSlow K x0) fun r0 =>
   some ((r0).1, (r0).2)) := by kernel_rfl
theorem stringslite_HasSuffix_eq (K : Nat) (x0 : ByteArray) (x1 : ByteArray) : stringslite_HasSuffix (K + 1) x0 x1 =
  br (leI ((ByteArray.size x1) : Int) ((ByteArray.size x0) : Int))
  (chk (leI (0 : Int) (IntKind.wrap IntKind.i64 (((ByteArray.size x0) : Int) - ((ByteArray.size x1) : Int)))) (chk (leI (IntKind.wrap IntKind.i64 (((ByteArray.size x0) : Int) - ((ByteArray.size x1) : Int))) ((ByteArray.size x0) : Int)) (chk (leI ((ByteArray.size x0) : Int) ((ByteArray.size x0) : Int)) (some (eqS (ByteArray.extract x0 (Int.toNat (IntKind.wrap IntKind.i64 (((ByteArray.size x0) : Int) - ((ByteArray.size x1) : Int)))) (Int.toNat ((ByteArray.size x0) : Int))) x1)))))
  (some Bool.false) := by kernel_rfl
theorem stringslite_HasPrefix_eq (K : Nat) (x0 : ByteArray) (x1 : ByteArray) : stringslite_HasPrefix (K + 1) x0 x1 =
  br (leI ((ByteArray.size x1) : Int) ((ByteArray.size x0) : Int))
  (chk (leI (0 : Int) (0 : Int)) (chk (leI (0 : Int) ((ByteArray.size x1) : Int)) (chk (leI ((ByteArray.size x1) : Int) ((ByteArray.size x0) : Int)) (some (eqS (ByteArray.extract x0 (Int.toNat (0 : Int)) (Int.toNat ((ByteArray.size x1) : Int))) x1)))))
  (some Bool.false) := by kernel_rfl
theorem runesIndexOf_eq (K : Nat) (x0 : List Int) (x1 : List Int) (x2 : Int) : runesIndexOf (K + 1) x0 x1 x2 =
  br (ltI (IntKind.wrap IntKind.i64 (((List.length x0) : Int) - (1 : Int))) x2)
  (some (-1 : Int))
  (runesIndexOf_j0 K K x0 x1 x2) := by kernel_rfl
theorem runesIndexOf_j0_eq (K k : Nat) (x0 : List (Int)) (x1 : List (Int)) (x2 : Int) : runesIndexOf_j0 K (k + 1) x0 x1 x2 =
  br (leI x2 (0 : Int))
  (Option.bind (runesIndex K x0 x1) fun r0 =>
   some r0)
  (runesIndexOf_j1 K k x0 x1 x2) := by kernel_rfl
theorem runesIndexOf_j1_eq (K k : Nat) (x0 : List (Int)) (x1 : List (Int)) (x2 : Int) : runesIndexOf_j1 K (k + 1) x0 x1 x2 =
  chk (leI (0 : Int) x2) (chk (leI x2 ((List.length x0) : Int)) (chk (leI ((List.length x0) : Int) ((List.length x0) : Int)) (Option.bind (runesIndex K (List.take ((Int.toNat ((List.length x0) : Int)) - (Int.toNat x2)) (List.drop (Int.toNat x2) x0)) x1) fun r0 =>
  br (eqI r0 (-(1 : Int)))
  (some (-1 : Int))
  (some (IntKind.wrap IntKind.i64 (r0 + x2)))))) := by kernel_rfl
theorem DecodeLastRuneInString_eq (K : Nat) (x0 : ByteArray) : DecodeLastRuneInString (K + 1) x0 =
  br (eqI ((ByteArray.size x0) : Int) (0 : Int))
  (some ((65533 : Int), (0 : Int)))
  (DecodeLastRuneInString_j0 K K x0 ((ByteArray.size x0) : Int)) := by kernel_rfl
theorem DecodeLastRuneInString_j0_eq (K k : Nat) (x0 : ByteArray) (x4 : Int) : DecodeLastRuneInString_j0 K (k + 1) x0 x4 =
  chk (leI (0 : Int) (IntKind.wrap IntKind.i64 (x4 - (1 : Int)))) (chk (ltI (IntKind.wrap IntKind.i64 (x4 - (1 : Int))) ((ByteArray.size x0) : Int)) (br (ltI (IntKind.wrap IntKind.i32 (bt x0 (IntKind.wrap IntKind.i64 (x4 - (1 : Int))))) (128 : Int))
  (some ((IntKind.wrap IntKind.i32 (bt x0 (IntKind.wrap IntKind.i64 (x4 - (1 : Int))))), (1 : Int)))
  (DecodeLastRuneInString_j1 K k x0 x4 (IntKind.wrap IntKind.i64 (x4 - (1 : Int)))))) := by kernel_rfl
theorem DecodeLastRuneInString_j1_eq (K k : Nat) (x0 : ByteArray) (x4 : Int) (x5 : Int) : DecodeLastRuneInString_j1 K (k + 1) x0 x4 x5 =
  DecodeLastRuneInString_l0 K k x0 x4 (IntKind.wrap IntKind.i64 (x5 - (1 : Int))) (cond (ltI (IntKind.wrap IntKind.i64 (x4 - (4 : Int))) (0 : Int)) (0 : Int) (IntKind.wrap IntKind.i64 (x4 - (4 : Int)))) := by kernel_rfl
theorem DecodeLastRuneInString_l0_eq (K k : Nat) (x0 : ByteArray) (x4 : Int) (x5 : Int) (x6 : Int) : DecodeLastRuneInString_l0 K (k + 1) x0 x4 x5 x6 =
  br (leI x6 x5)
  (DecodeLastRuneInString_j2 K k x0 x4 x5 x6)
  (DecodeLastRuneInString_j3 K k x0 x4 x5) := by kernel_rfl
theorem DecodeLastRuneInString_j2_eq (K k : Nat) (x0 : ByteArray) (x4 : Int) (x5 : Int) (x6 : Int) : DecodeLastRuneInString_j2 K (k + 1) x0 x4 x5 x6 =
  chk (leI (0 : Int) x5) (chk (ltI x5 ((ByteArray.size x0) : Int)) (Option.bind (RuneStart K (bt x0 x5)) fun r0 =>
  br r0
  (DecodeLastRuneInString_j3 K k x0 x4 x5)
  (DecodeLastRuneInString_l0 K k x0 x4 (IntKind.wrap IntKind.i64 (x5 - (1 : Int))) x6))) := by kernel_rfl
theorem DecodeLastRuneInString_j3_eq (K k : Nat) (x0 : ByteArray) (x4 : Int) (x5 : Int) : DecodeLastRuneInString_j3 K (k + 1) x0 x4 x5 =
  br (ltI x5 (0 : Int))
  (DecodeLastRuneInString_j4 K k x0 x4 (0 : Int))
  (DecodeLastRuneInString_j4 K k x0 x4 x5) := by kernel_rfl
theorem DecodeLastRuneInString_j4_eq (K k : Nat) (x0 : ByteArray) (x4 : Int) (x5 : Int) : DecodeLastRuneInString_j4 K (k + 1) x0 x4 x5 =
  chk (leI (0 : Int) x5) (chk (leI x5 x4) (chk (leI x4 ((ByteArray.size x0) : Int)) (Option.bind (DecodeRuneInString K (ByteArray.extract x0 (Int.toNat x5) (Int.toNat x4))) fun r0 =>
  br (Bool.not (eqI (IntKind.wrap IntKind.i64 (x5 + (r0).2)) x4))
  (some ((65533 : Int), (1 : Int)))
  (some ((r0).1, (r0).2))))) := by kernel_rfl
theorem zzNotAlnum_eq (K : Nat) (x0 : Int) : zzNotAlnum (K + 1) x0 =
  br (leI (97 : Int) x0)
  (br (leI x0 (122 : Int))
   (some Bool.false)
   (br (leI (65 : Int) x0)
    (br (leI x0 (90 : Int))
     (some Bool.false)
     (br (leI (48 : Int) x0)
      (some (Bool.not (leI x0 (57 : Int))))
      (some Bool.true)))
    (br (leI (48 : Int) x0)
     (some (Bool.not (leI x0 (57 : Int))))
     (some Bool.true))))
  (br (leI (65 : Int) x0)
   (br (leI x0 (90 : Int))
    (some Bool.false)
    (br (leI (48 : Int) x0)
     (some (Bool.not (leI x0 (57 : Int))))
     (some Bool.true)))
   (br (leI (48 : Int) x0)
    (some (Bool.not (leI x0 (57 : Int))))
    (some Bool.true))) := by kernel_rfl
theorem zzWhite_eq (K : Nat) (x0 : Int) : zzWhite (K + 1) x0 =
  br (eqI x0 (9 : Int))
  (some Bool.true)
  (br (eqI x0 (10 : Int))
   (some Bool.true)
   (br (eqI x0 (12 : Int))
    (some Bool.true)
    (br (eqI x0 (13 : Int))
     (some Bool.true)
     (some (eqI x0 (32 : Int)))))) := by kernel_rfl
theorem zzBreak_eq (K : Nat) (x0 : Int) : zzBreak (K + 1) x0 =
  br (eqI x0 (13 : Int))
  (some Bool.true)
  (some (eqI x0 (10 : Int))) := by kernel_rfl
theorem zzBlankEnd_eq (K : Nat) (x0 : ByteArray) : zzBlankEnd (K + 1) x0 =
  br (ltI ((ByteArray.size x0) : Int) (2 : Int))
  (zzBlankEnd_j0 K K x0 ((ByteArray.size x0) : Int) Bool.true)
  (chk (leI (0 : Int) (IntKind.wrap IntKind.i64 (((ByteArray.size x0) : Int) - (1 : Int)))) (chk (ltI (IntKind.wrap IntKind.i64 (((ByteArray.size x0) : Int) - (1 : Int))) ((ByteArray.size x0) : Int)) (zzBlankEnd_j0 K K x0 ((ByteArray.size x0) : Int) (Bool.not (eqI (bt x0 (IntKind.wrap IntKind.i64 (((ByteArray.size x0) : Int) - (1 : Int)))) (10 : Int)))))) := by kernel_rfl
theorem zzBlankEnd_j0_eq (K k : Nat) (x0 : ByteArray) (x3 : Int) (x14 : Bool) : zzBlankEnd_j0 K (k + 1) x0 x3 x14 =
  br x14
  (some Bool.false)
  (zzBlankEnd_j1 K k x0 x3) := by kernel_rfl
theorem zzBlankEnd_j1_eq (K k : Nat) (x0 : ByteArray) (x3 : Int) : zzBlankEnd_j1 K (k + 1) x0 x3 =
  chk (leI (0 : Int) (IntKind.wrap IntKind.i64 (x3 - (2 : Int)))) (chk (ltI (IntKind.wrap IntKind.i64 (x3 - (2 : Int))) ((ByteArray.size x0) : Int)) (br (eqI (bt x0 (IntKind.wrap IntKind.i64 (x3 - (2 : Int)))) (10 : Int))
  (some Bool.true)
  (br (ltI (2 : Int) x3)
   (chk (leI (0 : Int) (IntKind.wrap IntKind.i64 (x3 - (2 : Int)))) (chk (ltI (IntKind.wrap IntKind.i64 (x3 - (2 : Int))) ((ByteArray.size x0) : Int)) (br (eqI (bt x0 (IntKind.wrap IntKind.i64 (x3 - (2 : Int)))) (13 : Int))
    (chk (leI (0 : Int) (IntKind.wrap IntKind.i64 (x3 - (3 : Int)))) (chk (ltI (IntKind.wrap IntKind.i64 (x3 - (3 : Int))) ((ByteArray.size x0) : Int)) (some (eqI (bt x0 (IntKind.wrap IntKind.i64 (x3 - (3 : Int)))) (10 : Int)))))
    (some Bool.false))))
   (some Bool.false)))) := by kernel_rfl
theorem decodeRuneInStringSlow_eq (K : Nat) (x0 : ByteArray) : decodeRuneInStringSlow (K + 1) x0 =
  br (ltI ((ByteArray.size x0) : Int) (1 : Int))
  (some ((65533 : Int), (0 : Int)))
  (decodeRuneInStringSlow_j0 K K x0 ((ByteArray.size x0) : Int)) := by kernel_rfl
theorem decodeRuneInStringSlow_j0_eq (K k : Nat) (x0 : ByteArray) (x4 : Int) : decodeRuneInStringSlow_j0 K (k + 1) x0 x4 =
  chk (leI (0 : Int) (0 : Int)) (chk (ltI (0 : Int) ((ByteArray.size x0) : Int)) (none)) := by kernel_rfl
theorem runesIndex_eq (K : Nat) (x0 : List Int) (x1 : List Int) : runesIndex (K + 1) x0 x1 =
  runesIndex_l0 K K x0 x1 (IntKind.wrap IntKind.i64 (((List.length x0) : Int) - ((List.length x1) : Int))) (0 : Int) := by kernel_rfl
theorem runesIndex_l0_eq (K k : Nat) (x0 : List (Int)) (x1 : List (Int)) (x5 : Int) (x6 : Int) : runesIndex_l0 K (k + 1) x0 x1 x5 x6 =
  br (leI x6 x5)
  (runesIndex_j0 K k x0 x1 x5 x6)
  (some (-1 : Int)) := by kernel_rfl
theorem runesIndex_j0_eq (K k : Nat) (x0 : List (Int)) (x1 : List (Int)) (x5 : Int) (x6 : Int) : runesIndex_j0 K (k + 1) x0 x1 x5 x6 =
  chk (leI (0 : Int) x6) (chk (leI x6 (IntKind.wrap IntKind.i64 (x6 + ((List.length x1) : Int)))) (chk (leI (IntKind.wrap IntKind.i64 (x6 + ((List.length x1) : Int))) ((List.length x0) : Int)) (Option.bind (runesEqual K (List.take ((Int.toNat (IntKind.wrap IntKind.i64 (x6 + ((List.length x1) : Int)))) - (Int.toNat x6)) (List.drop (Int.toNat x6) x0)) x1) fun r0 =>
  br r0
  (some x6)
  (runesIndex_l0 K k x0 x1 x5 (IntKind.wrap IntKind.i64 (x6 + (1 : Int))))))) := by kernel_rfl
theorem RuneStart_eq (K : Nat) (x0 : Int) : RuneStart (K + 1) x0 =
  some (Bool.not (eqI (IntKind.wrap IntKind.u8 ((BitVec.toNat (HAnd.hAnd (BitVec.ofInt (IntKind.bits IntKind.u8) x0) (BitVec.ofInt (IntKind.bits IntKind.u8) (192 : Int)))) : Int)) (128 : Int))) := by kernel_rfl
theorem runesEqual_eq (K : Nat) (x0 : List Int) (x1 : List Int) : runesEqual (K + 1) x0 x1 =
  br (Bool.not (eqI ((List.length x0) : Int) ((List.length x1) : Int)))
  (some Bool.false)
  (runesEqual_j0 K K x0 x1) := by kernel_rfl
theorem runesEqual_j0_eq (K k : Nat) (x0 : List (Int)) (x1 : List (Int)) : runesEqual_j0 K (k + 1) x0 x1 =
  runesEqual_l0 K k x1 x0 ((List.length x0) : Int) (0 : Int) := by kernel_rfl
theorem runesEqual_l0_eq (K k : Nat) (x1 : List (Int)) (x12 : List (Int)) (x13 : Int) (x14 : Int) : runesEqual_l0 K (k + 1) x1 x12 x13 x14 =
  br (ltI x14 x13)
  (runesEqual_j1 K k x1 x12 x13 x14)
  (some Bool.true) := by kernel_rfl
theorem runesEqual_j1_eq (K k : Nat) (x1 : List (Int)) (x12 : List (Int)) (x13 : Int) (x14 : Int) : runesEqual_j1 K (k + 1) x1 x12 x13 x14 =
  chk (leI (0 : Int) x14) (chk (ltI x14 ((List.length x12) : Int)) (chk (leI (0 : Int) x14) (chk (ltI x14 ((List.length x1) : Int)) (br (Bool.not (eqI (nth (.int (.i32)) x12 x14) (nth (.int (.i32)) x1 x14)))
  (some Bool.false)
  (runesEqual_l0 K k x1 x12 x13 (IntKind.wrap IntKind.i64 (x14 + (1 : Int)))))))) := by kernel_rfl
end Go.Proofs.YtblmeoigjbnmiaaDoor.E
