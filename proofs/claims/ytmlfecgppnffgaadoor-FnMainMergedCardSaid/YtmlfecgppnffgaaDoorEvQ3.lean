import Derived.Test.YtmlfecgppnffgaaDoorEvT
/- Written by a program of this session (wip/tools/mkev.py): what the functions' places evaluate to. Not trusted: Lean checks it. -/
namespace Go.Proofs.YtmlfecgppnffgaaDoor.E
open Go.Ev
theorem stringslite_HasSuffix_eq (K : Nat) (x0 : ByteArray) (x1 : ByteArray) : stringslite_HasSuffix (K + 1) x0 x1 =
  br (leI (ByteArray.size x1 : Int) (ByteArray.size x0 : Int))
  (chk (leI 0 (IntKind.i64.wrap ((ByteArray.size x0 : Int) - (ByteArray.size x1 : Int)))) (chk (leI (IntKind.i64.wrap ((ByteArray.size x0 : Int) - (ByteArray.size x1 : Int))) (ByteArray.size x0 : Int)) (chk (leI (ByteArray.size x0 : Int) (ByteArray.size x0 : Int)) (some (eqS (ByteArray.extract x0 (Int.toNat (IntKind.i64.wrap ((ByteArray.size x0 : Int) - (ByteArray.size x1 : Int)))) (Int.toNat (ByteArray.size x0 : Int))) x1)))))
  (some false) := by kernel_rfl
theorem stringslite_HasPrefix_eq (K : Nat) (x0 : ByteArray) (x1 : ByteArray) : stringslite_HasPrefix (K + 1) x0 x1 =
  br (leI (ByteArray.size x1 : Int) (ByteArray.size x0 : Int))
  (chk (leI 0 0) (chk (leI 0 (ByteArray.size x1 : Int)) (chk (leI (ByteArray.size x1 : Int) (ByteArray.size x0 : Int)) (some (eqS (ByteArray.extract x0 (Int.toNat 0) (Int.toNat (ByteArray.size x1 : Int))) x1)))))
  (some false) := by kernel_rfl
theorem zzIndex_eq (K : Nat) (x0 : ByteArray) (x1 : ByteArray) : zzIndex (K + 1) x0 x1 =
  zzIndex_l0 K K x0 x1 0 := by kernel_rfl
theorem zzIndex_l0_eq (K k : Nat) (x0 : ByteArray) (x1 : ByteArray) (x5 : Int) : zzIndex_l0 K (k + 1) x0 x1 x5 =
  br (leI (IntKind.i64.wrap (x5 + (ByteArray.size x1 : Int))) (ByteArray.size x0 : Int))
  (zzIndex_j0 K k x0 x1 x5)
  (some (-1)) := by kernel_rfl
theorem zzIndex_j0_eq (K k : Nat) (x0 : ByteArray) (x1 : ByteArray) (x5 : Int) : zzIndex_j0 K (k + 1) x0 x1 x5 =
  chk (leI 0 x5) (chk (leI x5 (IntKind.i64.wrap (x5 + (ByteArray.size x1 : Int)))) (chk (leI (IntKind.i64.wrap (x5 + (ByteArray.size x1 : Int))) (ByteArray.size x0 : Int)) (br (eqS (ByteArray.extract x0 (Int.toNat x5) (Int.toNat (IntKind.i64.wrap (x5 + (ByteArray.size x1 : Int))))) x1)
  (some x5)
  (zzIndex_l0 K k x0 x1 (IntKind.i64.wrap (x5 + 1)))))) := by kernel_rfl
theorem runesIndexOf_eq (K : Nat) (x0 : List Int) (x1 : List Int) (x2 : Int) : runesIndexOf (K + 1) x0 x1 x2 =
  br (ltI (IntKind.i64.wrap ((List.length x0 : Int) - 1)) x2)
  (some (-1))
  (runesIndexOf_j0 K K x0 x1 x2) := by kernel_rfl
theorem runesIndexOf_j0_eq (K k : Nat) (x0 : List Int) (x1 : List Int) (x2 : Int) : runesIndexOf_j0 K (k + 1) x0 x1 x2 =
  br (leI x2 0)
  (Option.bind (runesIndex K x0 x1) fun t1 =>
   some t1)
  (runesIndexOf_j1 K k x0 x1 x2) := by kernel_rfl
theorem runesIndexOf_j1_eq (K k : Nat) (x0 : List Int) (x1 : List Int) (x2 : Int) : runesIndexOf_j1 K (k + 1) x0 x1 x2 =
  chk (leI 0 x2) (chk (leI x2 (List.length x0 : Int)) (chk (leI (List.length x0 : Int) (List.length x0 : Int)) (Option.bind (runesIndex K (List.take (Int.toNat (List.length x0 : Int) - Int.toNat x2) (List.drop (Int.toNat x2) x0)) x1) fun t2 =>
  br (eqI t2 (-1))
  (some (-1))
  (some (IntKind.i64.wrap (t2 + x2)))))) := by kernel_rfl
theorem DiffCleanupSemanticLossless_eq (K : Nat) (x0 : TS1.den) (x1 : List TS2.den) : DiffCleanupSemanticLossless (K + 1) x0 x1 =
  DiffCleanupSemanticLossless_l0 K K 0 [x0] x1 1 := by kernel_rfl
theorem DiffCleanupSemanticLossless_l0_eq (K k : Nat) (i0 : Int) (x0 : List TS1.den) (x1 : List TS2.den) (x5 : Int) : DiffCleanupSemanticLossless_l0 K (k + 1) i0 x0 x1 x5 =
  br (ltI x5 (IntKind.i64.wrap ((List.length x1 : Int) - 1)))
  (DiffCleanupSemanticLossless_j0 K k i0 x0 x1 x5)
  (some x1) := by kernel_rfl
theorem DiffCleanupSemanticLossless_j0_eq (K k : Nat) (i0 : Int) (x0 : List TS1.den) (x1 : List TS2.den) (x5 : Int) : DiffCleanupSemanticLossless_j0 K (k + 1) i0 x0 x1 x5 =
  chk (leI 0 (IntKind.i64.wrap (x5 - 1))) (chk (ltI (IntKind.i64.wrap (x5 - 1)) (List.length x1 : Int)) (br (eqI ((nth TS2 x1 (IntKind.i64.wrap (x5 - 1))).1) 0)
  (chk (leI 0 (IntKind.i64.wrap (x5 + 1))) (chk (ltI (IntKind.i64.wrap (x5 + 1)) (List.length x1 : Int)) (DiffCleanupSemanticLossless_j1 K k i0 x0 x1 x5 (eqI ((nth TS2 x1 (IntKind.i64.wrap (x5 + 1))).1) 0))))
  (DiffCleanupSemanticLossless_j1 K k i0 x0 x1 x5 false))) := by kernel_rfl
theorem DiffCleanupSemanticLossless_j1_eq (K k : Nat) (i0 : Int) (x0 : List TS1.den) (x1 : List TS2.den) (x5 : Int) (x38 : Bool) : DiffCleanupSemanticLossless_j1 K (k + 1) i0 x0 x1 x5 x38 =
  br x38
  (chk (leI 0 (IntKind.i64.wrap (x5 - 1))) (chk (ltI (IntKind.i64.wrap (x5 - 1)) (List.length x1 : Int)) (chk (leI 0 x5) (chk (ltI x5 (List.length x1 : Int)) (chk (leI 0 (IntKind.i64.wrap (x5 + 1))) (chk (ltI (IntKind.i64.wrap (x5 + 1)) (List.length x1 : Int)) (Option.bind (DiffCommonSuffix K (nth TS1 x0 i0) ((nth TS2 x1 (IntKind.i64.wrap (x5 - 1))).2) ((nth TS2 x1 x5).2)) fun t1 =>
   br (ltI 0 t1)
   (chk (leI 0 (IntKind.i64.wrap ((ByteArray.size ((nth TS2 x1 x5).2) : Int) - t1))) (chk (leI (IntKind.i64.wrap ((ByteArray.size ((nth TS2 x1 x5).2) : Int) - t1)) (ByteArray.size ((nth TS2 x1 x5).2) : Int)) (chk (leI (ByteArray.size ((nth TS2 x1 x5).2) : Int) (ByteArray.size ((nth TS2 x1 x5).2) : Int)) (chk (leI 0 0) (chk (leI 0 (IntKind.i64.wrap ((ByteArray.size ((nth TS2 x1 (IntKind.i64.wrap (x5 - 1))).2) : Int) - t1))) (chk (leI (IntKind.i64.wrap ((ByteArray.size ((nth TS2 x1 (IntKind.i64.wrap (x5 - 1))).2) : Int) - t1)) (ByteArray.size ((nth TS2 x1 (IntKind.i64.wrap (x5 - 1))).2) : Int)) (chk (leI 0 0) (chk (leI 0 (IntKind.i64.wrap ((ByteArray.size ((nth TS2 x1 x5).2) : Int) - t1))) (chk (leI (IntKind.i64.wrap ((ByteArray.size ((nth TS2 x1 x5).2) : Int) - t1)) (ByteArray.size ((nth TS2 x1 x5).2) : Int)) (chk (nleI (ByteArray.size (ByteArray.extract ((nth TS2 x1 x5).2) (Int.toNat (IntKind.i64.wrap ((ByteArray.size ((nth TS2 x1 x5).2) : Int) - t1))) (Int.toNat (ByteArray.size ((nth TS2 x1 x5).2) : Int))) + ByteArray.size (ByteArray.extract ((nth TS2 x1 x5).2) (Int.toNat 0) (Int.toNat (IntKind.i64.wrap ((ByteArray.size ((nth TS2 x1 x5).2) : Int) - t1))))) 9223372036854775807) (chk (nleI (ByteArray.size (ByteArray.extract ((nth TS2 x1 x5).2) (Int.toNat (IntKind.i64.wrap ((ByteArray.size ((nth TS2 x1 x5).2) : Int) - t1))) (Int.toNat (ByteArray.size ((nth TS2 x1 x5).2) : Int))) + ByteArray.size ((nth TS2 x1 (IntKind.i64.wrap (x5 + 1))).2)) 9223372036854775807) (DiffCleanupSemanticLossless_j2 K k i0 x0 x1 x5 (ByteArray.extract ((nth TS2 x1 (IntKind.i64.wrap (x5 - 1))).2) (Int.toNat 0) (Int.toNat (IntKind.i64.wrap ((ByteArray.size ((nth TS2 x1 (IntKind.i64.wrap (x5 - 1))).2) : Int) - t1)))) (ByteArray.append (ByteArray.extract ((nth TS2 x1 x5).2) (Int.toNat (IntKind.i64.wrap ((ByteArray.size ((nth TS2 x1 x5).2) : Int) - t1))) (Int.toNat (ByteArray.size ((nth TS2 x1 x5).2) : Int))) (ByteArray.extract ((nth TS2 x1 x5).2) (Int.toNat 0) (Int.toNat (IntKind.i64.wrap ((ByteArray.size ((nth TS2 x1 x5).2) : Int) - t1))))) (ByteArray.append (ByteArray.extract ((nth TS2 x1 x5).2) (Int.toNat (IntKind.i64.wrap ((ByteArray.size ((nth TS2 x1 x5).2) : Int) - t1))) (Int.toNat (ByteArray.size ((nth TS2 x1 x5).2) : Int))) ((nth TS2 x1 (IntKind.i64.wrap (x5 + 1))).2))))))))))))))
   (DiffCleanupSemanticLossless_j2 K k i0 x0 x1 x5 ((nth TS2 x1 (IntKind.i64.wrap (x5 - 1))).2) ((nth TS2 x1 x5).2) ((nth TS2 x1 (IntKind.i64.wrap (x5 + 1))).2)))))))))
  (DiffCleanupSemanticLossless_l0 K k i0 x0 x1 (IntKind.i64.wrap (x5 + 1))) := by kernel_rfl
theorem DiffCleanupSemanticLossless_j2_eq (K k : Nat) (i0 : Int) (x0 : List TS1.den) (x1 : List TS2.den) (x5 : Int) (x6 : ByteArray) (x7 : ByteArray) (x8 : ByteArray) : DiffCleanupSemanticLossless_j2 K (k + 1) i0 x0 x1 x5 x6 x7 x8 =
  Option.bind (diffCleanupSemanticScore K x6 x7) fun t2 =>
  Option.bind (diffCleanupSemanticScore K x7 x8) fun t3 =>
  DiffCleanupSemanticLossless_l1 K k i0 x0 x1 x5 x6 x7 x8 x6 x7 x8 (IntKind.i64.wrap (t2 + t3)) := by kernel_rfl
theorem DiffCleanupSemanticLossless_l1_eq (K k : Nat) (i0 : Int) (x0 : List TS1.den) (x1 : List TS2.den) (x5 : Int) (x6 : ByteArray) (x7 : ByteArray) (x8 : ByteArray) (x11 : ByteArray) (x12 : ByteArray) (x13 : ByteArray) (x14 : Int) : DiffCleanupSemanticLossless_l1 K (k + 1) i0 x0 x1 x5 x6 x7 x8 x11 x12 x13 x14 =
  br (!eqI (ByteArray.size x7 : Int) 0)
  (br (!eqI (ByteArray.size x8 : Int) 0)
   (DiffCleanupSemanticLossless_j3 K k i0 x0 x1 x5 x6 x7 x8 x11 x12 x13 x14)
   (DiffCleanupSemanticLossless_j4 K k i0 x0 x1 x5 x11 x12 x13))
  (DiffCleanupSemanticLossless_j4 K k i0 x0 x1 x5 x11 x12 x13) := by kernel_rfl
theorem DiffCleanupSemanticLossless_j3_eq (K k : Nat) (i0 : Int) (x0 : List TS1.den) (x1 : List TS2.den) (x5 : Int) (x6 : ByteArray) (x7 : ByteArray) (x8 : ByteArray) (x11 : ByteArray) (x12 : ByteArray) (x13 : ByteArray) (x14 : Int) : DiffCleanupSemanticLossless_j3 K (k + 1) i0 x0 x1 x5 x6 x7 x8 x11 x12 x13 x14 =
  Option.bind (DecodeRuneInString K x7) fun t4 =>
  br (ltI (ByteArray.size x8 : Int) t4.2)
  (DiffCleanupSemanticLossless_j4 K k i0 x0 x1 x5 x11 x12 x13)
  (chk (leI 0 0) (chk (leI 0 t4.2) (chk (leI t4.2 (ByteArray.size x7 : Int)) (chk (leI 0 0) (chk (leI 0 t4.2) (chk (leI t4.2 (ByteArray.size x8 : Int)) (br (!(eqS (ByteArray.extract x7 (Int.toNat 0) (Int.toNat t4.2)) (ByteArray.extract x8 (Int.toNat 0) (Int.toNat t4.2))))
   (DiffCleanupSemanticLossless_j4 K k i0 x0 x1 x5 x11 x12 x13)
   (DiffCleanupSemanticLossless_j5 K k i0 x0 x1 x5 x6 x7 x8 x11 x12 x13 x14 t4.2)))))))) := by kernel_rfl
theorem DiffCleanupSemanticLossless_j4_eq (K k : Nat) (i0 : Int) (x0 : List TS1.den) (x1 : List TS2.den) (x5 : Int) (x11 : ByteArray) (x12 : ByteArray) (x13 : ByteArray) : DiffCleanupSemanticLossless_j4 K (k + 1) i0 x0 x1 x5 x11 x12 x13 =
  chk (leI 0 (IntKind.i64.wrap (x5 - 1))) (chk (ltI (IntKind.i64.wrap (x5 - 1)) (List.length x1 : Int)) (br (!(eqS ((nth TS2 x1 (IntKind.i64.wrap (x5 - 1))).2) x11))
  (br (!eqI (ByteArray.size x11 : Int) 0)
   (chk (leI 0 (IntKind.i64.wrap (x5 - 1))) (chk (ltI (IntKind.i64.wrap (x5 - 1)) (List.length x1 : Int)) (DiffCleanupSemanticLossless_j6 K k i0 x0 (List.set x1 (Int.toNat (IntKind.i64.wrap (x5 - 1))) ((nth TS2 x1 (IntKind.i64.wrap (x5 - 1))).1, x11)) x5 x12 x13)))
   (Option.bind (splice K x1 (IntKind.i64.wrap (x5 - 1)) 1 []) fun t5 =>
    DiffCleanupSemanticLossless_j6 K k i0 x0 t5 (IntKind.i64.wrap (x5 - 1)) x12 x13))
  (DiffCleanupSemanticLossless_l0 K k i0 x0 x1 (IntKind.i64.wrap (x5 + 1))))) := by kernel_rfl
theorem DiffCleanupSemanticLossless_j5_eq (K k : Nat) (i0 : Int) (x0 : List TS1.den) (x1 : List TS2.den) (x5 : Int) (x6 : ByteArray) (x7 : ByteArray) (x8 : ByteArray) (x11 : ByteArray) (x12 : ByteArray) (x13 : ByteArray) (x14 : Int) (x16 : Int) : DiffCleanupSemanticLossless_j5 K (k + 1) i0 x0 x1 x5 x6 x7 x8 x11 x12 x13 x14 x16 =
  chk (leI 0 0) (chk (leI 0 x16) (chk (leI x16 (ByteArray.size x7 : Int)) (chk (nleI (ByteArray.size x6 + ByteArray.size (ByteArray.extract x7 (Int.toNat 0) (Int.toNat x16))) 9223372036854775807) (chk (leI 0 x16) (chk (leI x16 (ByteArray.size x7 : Int)) (chk (leI (ByteArray.size x7 : Int) (ByteArray.size x7 : Int)) (chk (leI 0 0) (chk (leI 0 x16) (chk (leI x16 (ByteArray.size x8 : Int)) (chk (nleI (ByteArray.size (ByteArray.extract x7 (Int.toNat x16) (Int.toNat (ByteArray.size x7 : Int))) + ByteArray.size (ByteArray.extract x8 (Int.toNat 0) (Int.toNat x16))) 9223372036854775807) (chk (leI 0 x16) (chk (leI x16 (ByteArray.size x8 : Int)) (chk (leI (ByteArray.size x8 : Int) (ByteArray.size x8 : Int)) (Option.bind (diffCleanupSemanticScore K (ByteArray.append x6 (ByteArray.extract x7 (Int.toNat 0) (Int.toNat x16))) (ByteArray.append (ByteArray.extract x7 (Int.toNat x16) (Int.toNat (ByteArray.size x7 : Int))) (ByteArray.extract x8 (Int.toNat 0) (Int.toNat x16)))) fun t6 =>
  Option.bind (diffCleanupSemanticScore K (ByteArray.append (ByteArray.extract x7 (Int.toNat x16) (Int.toNat (ByteArray.size x7 : Int))) (ByteArray.extract x8 (Int.toNat 0) (Int.toNat x16))) (ByteArray.extract x8 (Int.toNat x16) (Int.toNat (ByteArray.size x8 : Int)))) fun t7 =>
  br (leI x14 (IntKind.i64.wrap (t6 + t7)))
  (DiffCleanupSemanticLossless_l1 K k i0 x0 x1 x5 (ByteArray.append x6 (ByteArray.extract x7 (Int.toNat 0) (Int.toNat x16))) (ByteArray.append (ByteArray.extract x7 (Int.toNat x16) (Int.toNat (ByteArray.size x7 : Int))) (ByteArray.extract x8 (Int.toNat 0) (Int.toNat x16))) (ByteArray.extract x8 (Int.toNat x16) (Int.toNat (ByteArray.size x8 : Int))) (ByteArray.append x6 (ByteArray.extract x7 (Int.toNat 0) (Int.toNat x16))) (ByteArray.append (ByteArray.extract x7 (Int.toNat x16) (Int.toNat (ByteArray.size x7 : Int))) (ByteArray.extract x8 (Int.toNat 0) (Int.toNat x16))) (ByteArray.extract x8 (Int.toNat x16) (Int.toNat (ByteArray.size x8 : Int))) (IntKind.i64.wrap (t6 + t7)))
  (DiffCleanupSemanticLossless_l1 K k i0 x0 x1 x5 (ByteArray.append x6 (ByteArray.extract x7 (Int.toNat 0) (Int.toNat x16))) (ByteArray.append (ByteArray.extract x7 (Int.toNat x16) (Int.toNat (ByteArray.size x7 : Int))) (ByteArray.extract x8 (Int.toNat 0) (Int.toNat x16))) (ByteArray.extract x8 (Int.toNat x16) (Int.toNat (ByteArray.size x8 : Int))) x11 x12 x13 x14))))))))))))))) := by kernel_rfl
theorem DiffCleanupSemanticLossless_j6_eq (K k : Nat) (i0 : Int) (x0 : List TS1.den) (x1 : List TS2.den) (x5 : Int) (x12 : ByteArray) (x13 : ByteArray) : DiffCleanupSemanticLossless_j6 K (k + 1) i0 x0 x1 x5 x12 x13 =
  chk (leI 0 x5) (chk (ltI x5 (List.length x1 : Int)) (br (!eqI (ByteArray.size x13 : Int) 0)
  (chk (leI 0 (IntKind.i64.wrap (x5 + 1))) (chk (ltI (IntKind.i64.wrap (x5 + 1)) (List.length (List.set x1 (Int.toNat x5) ((nth TS2 x1 x5).1, x12)) : Int)) (DiffCleanupSemanticLossless_l0 K k i0 x0 (List.set (List.set x1 (Int.toNat x5) ((nth TS2 x1 x5).1, x12)) (Int.toNat (IntKind.i64.wrap (x5 + 1))) ((nth TS2 (List.set x1 (Int.toNat x5) ((nth TS2 x1 x5).1, x12)) (IntKind.i64.wrap (x5 + 1))).1, x13)) (IntKind.i64.wrap (x5 + 1)))))
  (chk (leI 0 0) (chk (leI 0 (IntKind.i64.wrap (x5 + 1))) (chk (leI (IntKind.i64.wrap (x5 + 1)) (List.length (List.set x1 (Int.toNat x5) ((nth TS2 x1 x5).1, x12)) : Int)) (chk (leI 0 (IntKind.i64.wrap (x5 + 2))) (chk (leI (IntKind.i64.wrap (x5 + 2)) (List.length (List.set x1 (Int.toNat x5) ((nth TS2 x1 x5).1, x12)) : Int)) (chk (leI (List.length (List.set x1 (Int.toNat x5) ((nth TS2 x1 x5).1, x12)) : Int) (List.length (List.set x1 (Int.toNat x5) ((nth TS2 x1 x5).1, x12)) : Int)) (chk (eqI 0 0) (chk (ltI ((IntKind.i64.wrap (x5 + 1)) + (List.length (List.take (Int.toNat (List.length (List.set x1 (Int.toNat x5) ((nth TS2 x1 x5).1, x12)) : Int) - Int.toNat (IntKind.i64.wrap (x5 + 2))) (List.drop (Int.toNat (IntKind.i64.wrap (x5 + 2))) (List.set x1 (Int.toNat x5) ((nth TS2 x1 x5).1, x12)))) : Int)) 1000000000000) (DiffCleanupSemanticLossless_l0 K k i0 x0 (List.take (Int.toNat (IntKind.i64.wrap (x5 + 1))) (List.set x1 (Int.toNat x5) ((nth TS2 x1 x5).1, x12)) ++ (List.take (Int.toNat (List.length (List.set x1 (Int.toNat x5) ((nth TS2 x1 x5).1, x12)) : Int) - Int.toNat (IntKind.i64.wrap (x5 + 2))) (List.drop (Int.toNat (IntKind.i64.wrap (x5 + 2))) (List.set x1 (Int.toNat x5) ((nth TS2 x1 x5).1, x12))))) (IntKind.i64.wrap ((IntKind.i64.wrap (x5 - 1)) + 1))))))))))))) := by kernel_rfl
theorem DiffCommonOverlap_eq (K : Nat) (x0 : TS1.den) (x1 : ByteArray) (x2 : ByteArray) : DiffCommonOverlap (K + 1) x0 x1 x2 =
  br (eqI (ByteArray.size x1 : Int) 0)
  (DiffCommonOverlap_j0 K K x1 x2 (ByteArray.size x1 : Int) (ByteArray.size x2 : Int) true)
  (DiffCommonOverlap_j0 K K x1 x2 (ByteArray.size x1 : Int) (ByteArray.size x2 : Int) (eqI (ByteArray.size x2 : Int) 0)) := by kernel_rfl
theorem DiffCommonOverlap_j0_eq (K k : Nat) (x1 : ByteArray) (x2 : ByteArray) (x7 : Int) (x8 : Int) (x23 : Bool) : DiffCommonOverlap_j0 K (k + 1) x1 x2 x7 x8 x23 =
  br x23
  (some 0)
  (DiffCommonOverlap_j1 K k x1 x2 x7 x8) := by kernel_rfl
theorem DiffCommonOverlap_j1_eq (K k : Nat) (x1 : ByteArray) (x2 : ByteArray) (x7 : Int) (x8 : Int) : DiffCommonOverlap_j1 K (k + 1) x1 x2 x7 x8 =
  br (ltI x8 x7)
  (chk (leI 0 (IntKind.i64.wrap (x7 - x8))) (chk (leI (IntKind.i64.wrap (x7 - x8)) (ByteArray.size x1 : Int)) (chk (leI (ByteArray.size x1 : Int) (ByteArray.size x1 : Int)) (DiffCommonOverlap_j2 K k (ByteArray.extract x1 (Int.toNat (IntKind.i64.wrap (x7 - x8))) (Int.toNat (ByteArray.size x1 : Int))) x2 x7 x8))))
  (br (ltI x7 x8)
   (chk (leI 0 0) (chk (leI 0 x7) (chk (leI x7 (ByteArray.size x2 : Int)) (DiffCommonOverlap_j2 K k x1 (ByteArray.extract x2 (Int.toNat 0) (Int.toNat x7)) x7 x8))))
   (DiffCommonOverlap_j2 K k x1 x2 x7 x8)) := by kernel_rfl
theorem DiffCommonOverlap_j2_eq (K k : Nat) (x1 : ByteArray) (x2 : ByteArray) (x7 : Int) (x8 : Int) : DiffCommonOverlap_j2 K (k + 1) x1 x2 x7 x8 =
  Option.bind (Min K (i2fI x7) (i2fI x8)) fun t1 =>
  chk (f2iOkI .i64 t1) (br (eqS x1 x2)
  (some (f2iI .i64 t1))
  (DiffCommonOverlap_j3 K k x1 x2 (f2iI .i64 t1))) := by kernel_rfl
theorem DiffCommonOverlap_j3_eq (K k : Nat) (x1 : ByteArray) (x2 : ByteArray) (x9 : Int) : DiffCommonOverlap_j3 K (k + 1) x1 x2 x9 =
  DiffCommonOverlap_l0 K k x1 x2 x9 0 1 := by kernel_rfl
theorem DiffCommonOverlap_l0_eq (K k : Nat) (x1 : ByteArray) (x2 : ByteArray) (x9 : Int) (x10 : Int) (x11 : Int) : DiffCommonOverlap_l0 K (k + 1) x1 x2 x9 x10 x11 =
  chk (leI 0 (IntKind.i64.wrap (x9 - x11))) (chk (leI (IntKind.i64.wrap (x9 - x11)) (ByteArray.size x1 : Int)) (chk (leI (ByteArray.size x1 : Int) (ByteArray.size x1 : Int)) (Option.bind (zzIndex K x2 (ByteArray.extract x1 (Int.toNat (IntKind.i64.wrap (x9 - x11))) (Int.toNat (ByteArray.size x1 : Int)))) fun t2 =>
  br (eqI t2 (-1))
  (some x10)
  (DiffCommonOverlap_j4 K k x1 x2 x9 x10 x11 t2)))) := by kernel_rfl
theorem DiffCommonOverlap_j4_eq (K k : Nat) (x1 : ByteArray) (x2 : ByteArray) (x9 : Int) (x10 : Int) (x11 : Int) (x13 : Int) : DiffCommonOverlap_j4 K (k + 1) x1 x2 x9 x10 x11 x13 =
  br (eqI x13 0)
  (DiffCommonOverlap_j5 K k x1 x2 x9 x10 (IntKind.i64.wrap (x11 + x13)) true)
  (chk (leI 0 (IntKind.i64.wrap (x9 - (IntKind.i64.wrap (x11 + x13))))) (chk (leI (IntKind.i64.wrap (x9 - (IntKind.i64.wrap (x11 + x13)))) (ByteArray.size x1 : Int)) (chk (leI (ByteArray.size x1 : Int) (ByteArray.size x1 : Int)) (chk (leI 0 0) (chk (leI 0 (IntKind.i64.wrap (x11 + x13))) (chk (leI (IntKind.i64.wrap (x11 + x13)) (ByteArray.size x2 : Int)) (DiffCommonOverlap_j5 K k x1 x2 x9 x10 (IntKind.i64.wrap (x11 + x13)) (eqS (ByteArray.extract x1 (Int.toNat (IntKind.i64.wrap (x9 - (IntKind.i64.wrap (x11 + x13))))) (Int.toNat (ByteArray.size x1 : Int))) (ByteArray.extract x2 (Int.toNat 0) (Int.toNat (IntKind.i64.wrap (x11 + x13)))))))))))) := by kernel_rfl
theorem DiffCommonOverlap_j5_eq (K k : Nat) (x1 : ByteArray) (x2 : ByteArray) (x9 : Int) (x10 : Int) (x11 : Int) (x73 : Bool) : DiffCommonOverlap_j5 K (k + 1) x1 x2 x9 x10 x11 x73 =
  br x73
  (DiffCommonOverlap_l0 K k x1 x2 x9 x11 (IntKind.i64.wrap (x11 + 1)))
  (DiffCommonOverlap_l0 K k x1 x2 x9 x10 x11) := by kernel_rfl
theorem DiffCommonSuffix_eq (K : Nat) (x0 : TS1.den) (x1 : ByteArray) (x2 : ByteArray) : DiffCommonSuffix (K + 1) x0 x1 x2 =
  chk (nleI (List.length (runesI x1)) 70368744177664) (chk (nleI (List.length (runesI x2)) 70368744177664) (Option.bind (commonSuffixLength K (runesI x1) (runesI x2)) fun t1 =>
  some t1)) := by kernel_rfl
theorem diffCleanupSemanticScore_eq (K : Nat) (x0 : ByteArray) (x1 : ByteArray) : diffCleanupSemanticScore (K + 1) x0 x1 =
  br (eqI (ByteArray.size x0 : Int) 0)
  (diffCleanupSemanticScore_j0 K K x0 x1 true)
  (diffCleanupSemanticScore_j0 K K x0 x1 (eqI (ByteArray.size x1 : Int) 0)) := by kernel_rfl
theorem diffCleanupSemanticScore_j0_eq (K k : Nat) (x0 : ByteArray) (x1 : ByteArray) (x24 : Bool) : diffCleanupSemanticScore_j0 K (k + 1) x0 x1 x24 =
  br x24
  (some 6)
  (diffCleanupSemanticScore_j1 K k x0 x1) := by kernel_rfl
theorem diffCleanupSemanticScore_j1_eq (K k : Nat) (x0 : ByteArray) (x1 : ByteArray) : diffCleanupSemanticScore_j1 K (k + 1) x0 x1 =
  Option.bind (DecodeLastRuneInString K x0) fun t1 =>
  Option.bind (DecodeRuneInString K x1) fun t2 =>
  Option.bind (zzNotAlnum K t1.1) fun t3 =>
  Option.bind (zzNotAlnum K t2.1) fun t4 =>
  br t3
  (Option.bind (zzWhite K t1.1) fun t5 =>
   diffCleanupSemanticScore_j2 K k x0 x1 t1.1 t2.1 t3 t4 t5)
  (diffCleanupSemanticScore_j2 K k x0 x1 t1.1 t2.1 t3 t4 false) := by kernel_rfl
theorem diffCleanupSemanticScore_j2_eq (K k : Nat) (x0 : ByteArray) (x1 : ByteArray) (x5 : Int) (x7 : Int) (x9 : Bool) (x10 : Bool) (x11 : Bool) : diffCleanupSemanticScore_j2 K (k + 1) x0 x1 x5 x7 x9 x10 x11 =
  br x10
  (Option.bind (zzWhite K x7) fun t6 =>
   diffCleanupSemanticScore_j3 K k x0 x1 x5 x7 x9 x10 x11 t6)
  (diffCleanupSemanticScore_j3 K k x0 x1 x5 x7 x9 x10 x11 false) := by kernel_rfl
theorem diffCleanupSemanticScore_j3_eq (K k : Nat) (x0 : ByteArray) (x1 : ByteArray) (x5 : Int) (x7 : Int) (x9 : Bool) (x10 : Bool) (x11 : Bool) (x12 : Bool) : diffCleanupSemanticScore_j3 K (k + 1) x0 x1 x5 x7 x9 x10 x11 x12 =
  br x11
  (Option.bind (zzBreak K x5) fun t7 =>
   diffCleanupSemanticScore_j4 K k x0 x1 x7 x9 x10 x11 x12 t7)
  (diffCleanupSemanticScore_j4 K k x0 x1 x7 x9 x10 x11 x12 false) := by kernel_rfl
theorem diffCleanupSemanticScore_j4_eq (K k : Nat) (x0 : ByteArray) (x1 : ByteArray) (x7 : Int) (x9 : Bool) (x10 : Bool) (x11 : Bool) (x12 : Bool) (x13 : Bool) : diffCleanupSemanticScore_j4 K (k + 1) x0 x1 x7 x9 x10 x11 x12 x13 =
  br x12
  (Option.bind (zzBreak K x7) fun t8 =>
   diffCleanupSemanticScore_j5 K k x0 x1 x9 x10 x11 x12 x13 t8)
  (diffCleanupSemanticScore_j5 K k x0 x1 x9 x10 x11 x12 x13 false) := by kernel_rfl
theorem diffCleanupSemanticScore_j5_eq (K k : Nat) (x0 : ByteArray) (x1 : ByteArray) (x9 : Bool) (x10 : Bool) (x11 : Bool) (x12 : Bool) (x13 : Bool) (x14 : Bool) : diffCleanupSemanticScore_j5 K (k + 1) x0 x1 x9 x10 x11 x12 x13 x14 =
  br x13
  (Option.bind (zzBlankEnd K x0) fun t9 =>
   diffCleanupSemanticScore_j6 K k x1 x9 x10 x11 x12 x13 x14 t9)
  (diffCleanupSemanticScore_j6 K k x1 x9 x10 x11 x12 x13 x14 false) := by kernel_rfl
theorem diffCleanupSemanticScore_j6_eq (K k : Nat) (x1 : ByteArray) (x9 : Bool) (x10 : Bool) (x11 : Bool) (x12 : Bool) (x13 : Bool) (x14 : Bool) (x15 : Bool) : diffCleanupSemanticScore_j6 K (k + 1) x1 x9 x10 x11 x12 x13 x14 x15 =
  br x14
  (Option.bind (zzBlankEnd K x1) fun t10 =>
   diffCleanupSemanticScore_j7 K k x9 x10 x11 x12 x13 x14 x15 t10)
  (diffCleanupSemanticScore_j7 K k x9 x10 x11 x12 x13 x14 x15 false) := by kernel_rfl
theorem diffCleanupSemanticScore_j7_eq (K k : Nat) (x9 : Bool) (x10 : Bool) (x11 : Bool) (x12 : Bool) (x13 : Bool) (x14 : Bool) (x15 : Bool) (x16 : Bool) : diffCleanupSemanticScore_j7 K (k + 1) x9 x10 x11 x12 x13 x14 x15 x16 =
  br x15
  (diffCleanupSemanticScore_j8 K k x9 x10 x11 x12 x13 x14 true)
  (diffCleanupSemanticScore_j8 K k x9 x10 x11 x12 x13 x14 x16) := by kernel_rfl
theorem diffCleanupSemanticScore_j8_eq (K k : Nat) (x9 : Bool) (x10 : Bool) (x11 : Bool) (x12 : Bool) (x13 : Bool) (x14 : Bool) (x72 : Bool) : diffCleanupSemanticScore_j8 K (k + 1) x9 x10 x11 x12 x13 x14 x72 =
  br x72
  (some 5)
  (br x13
   (diffCleanupSemanticScore_j9 K k x9 x10 x11 x12 true)
   (diffCleanupSemanticScore_j9 K k x9 x10 x11 x12 x14)) := by kernel_rfl
theorem diffCleanupSemanticScore_j9_eq (K k : Nat) (x9 : Bool) (x10 : Bool) (x11 : Bool) (x12 : Bool) (x76 : Bool) : diffCleanupSemanticScore_j9 K (k + 1) x9 x10 x11 x12 x76 =
  br x76
  (some 4)
  (br x9
   (br (!x11)
    (diffCleanupSemanticScore_j10 K k x9 x10 x11 x12 x12)
    (diffCleanupSemanticScore_j10 K k x9 x10 x11 x12 false))
   (diffCleanupSemanticScore_j10 K k x9 x10 x11 x12 false)) := by kernel_rfl
theorem diffCleanupSemanticScore_j10_eq (K k : Nat) (x9 : Bool) (x10 : Bool) (x11 : Bool) (x12 : Bool) (x84 : Bool) : diffCleanupSemanticScore_j10 K (k + 1) x9 x10 x11 x12 x84 =
  br x84
  (some 3)
  (br x11
   (diffCleanupSemanticScore_j11 K k x9 x10 true)
   (diffCleanupSemanticScore_j11 K k x9 x10 x12)) := by kernel_rfl
theorem diffCleanupSemanticScore_j11_eq (K k : Nat) (x9 : Bool) (x10 : Bool) (x88 : Bool) : diffCleanupSemanticScore_j11 K (k + 1) x9 x10 x88 =
  br x88
  (some 2)
  (br x9
   (diffCleanupSemanticScore_j12 K k true)
   (diffCleanupSemanticScore_j12 K k x10)) := by kernel_rfl
theorem diffCleanupSemanticScore_j12_eq (K k : Nat) (x92 : Bool) : diffCleanupSemanticScore_j12 K (k + 1) x92 =
  br x92
  (some 1)
  (some 0) := by kernel_rfl
theorem DecodeRuneInString_eq (K : Nat) (x0 : ByteArray) : DecodeRuneInString (K + 1) x0 =
  br (!(eqS x0 (⟨#[]⟩ : ByteArray)))
  (chk (leI 0 0) (chk (ltI 0 (ByteArray.size x0 : Int)) (DecodeRuneInString_j0 K K x0 (ltI (bt x0 0) 128))))
  (DecodeRuneInString_j0 K K x0 false) := by kernel_rfl
theorem DecodeRuneInString_j0_eq (K k : Nat) (x0 : ByteArray) (x10 : Bool) : DecodeRuneInString_j0 K (k + 1) x0 x10 =
  br x10
  (chk (leI 0 0) (chk (ltI 0 (ByteArray.size x0 : Int)) (some ((IntKind.i32.wrap (bt x0 0)), 1))))
  (Option.bind (decodeRuneInStringSlow K x0) fun t1 =>
   some (t1.1, t1.2)) := by kernel_rfl
theorem DecodeLastRuneInString_eq (K : Nat) (x0 : ByteArray) : DecodeLastRuneInString (K + 1) x0 =
  br (eqI (ByteArray.size x0 : Int) 0)
  (some (65533, 0))
  (DecodeLastRuneInString_j0 K K x0 (ByteArray.size x0 : Int)) := by kernel_rfl
theorem DecodeLastRuneInString_j0_eq (K k : Nat) (x0 : ByteArray) (x4 : Int) : DecodeLastRuneInString_j0 K (k + 1) x0 x4 =
  chk (leI 0 (IntKind.i64.wrap (x4 - 1))) (chk (ltI (IntKind.i64.wrap (x4 - 1)) (ByteArray.size x0 : Int)) (br (ltI (IntKind.i32.wrap (bt x0 (IntKind.i64.wrap (x4 - 1)))) 128)
  (some ((IntKind.i32.wrap (bt x0 (IntKind.i64.wrap (x4 - 1)))), 1))
  (DecodeLastRuneInString_j1 K k x0 x4 (IntKind.i64.wrap (x4 - 1))))) := by kernel_rfl
theorem DecodeLastRuneInString_j1_eq (K k : Nat) (x0 : ByteArray) (x4 : Int) (x5 : Int) : DecodeLastRuneInString_j1 K (k + 1) x0 x4 x5 =
  DecodeLastRuneInString_l0 K k x0 x4 (IntKind.i64.wrap (x5 - 1)) (bif ltI (IntKind.i64.wrap (x4 - 4)) 0 then 0 else (IntKind.i64.wrap (x4 - 4))) := by kernel_rfl
theorem DecodeLastRuneInString_l0_eq (K k : Nat) (x0 : ByteArray) (x4 : Int) (x5 : Int) (x6 : Int) : DecodeLastRuneInString_l0 K (k + 1) x0 x4 x5 x6 =
  br (leI x6 x5)
  (DecodeLastRuneInString_j2 K k x0 x4 x5 x6)
  (DecodeLastRuneInString_j3 K k x0 x4 x5) := by kernel_rfl
theorem DecodeLastRuneInString_j2_eq (K k : Nat) (x0 : ByteArray) (x4 : Int) (x5 : Int) (x6 : Int) : DecodeLastRuneInString_j2 K (k + 1) x0 x4 x5 x6 =
  chk (leI 0 x5) (chk (ltI x5 (ByteArray.size x0 : Int)) (Option.bind (RuneStart K (bt x0 x5)) fun t1 =>
  br t1
  (DecodeLastRuneInString_j3 K k x0 x4 x5)
  (DecodeLastRuneInString_l0 K k x0 x4 (IntKind.i64.wrap (x5 - 1)) x6))) := by kernel_rfl
theorem DecodeLastRuneInString_j3_eq (K k : Nat) (x0 : ByteArray) (x4 : Int) (x5 : Int) : DecodeLastRuneInString_j3 K (k + 1) x0 x4 x5 =
  br (ltI x5 0)
  (DecodeLastRuneInString_j4 K k x0 x4 0)
  (DecodeLastRuneInString_j4 K k x0 x4 x5) := by kernel_rfl
theorem DecodeLastRuneInString_j4_eq (K k : Nat) (x0 : ByteArray) (x4 : Int) (x5 : Int) : DecodeLastRuneInString_j4 K (k + 1) x0 x4 x5 =
  chk (leI 0 x5) (chk (leI x5 x4) (chk (leI x4 (ByteArray.size x0 : Int)) (Option.bind (DecodeRuneInString K (ByteArray.extract x0 (Int.toNat x5) (Int.toNat x4))) fun t2 =>
  br (!eqI (IntKind.i64.wrap (x5 + t2.2)) x4)
  (some (65533, 1))
  (some (t2.1, t2.2))))) := by kernel_rfl
theorem zzNotAlnum_eq (K : Nat) (x0 : Int) : zzNotAlnum (K + 1) x0 =
  br (leI 97 x0)
  (br (leI x0 122)
   (some false)
   (br (leI 65 x0)
    (br (leI x0 90)
     (some false)
     (br (leI 48 x0)
      (some (!(leI x0 57)))
      (some true)))
    (br (leI 48 x0)
     (some (!(leI x0 57)))
     (some true))))
  (br (leI 65 x0)
   (br (leI x0 90)
    (some false)
    (br (leI 48 x0)
     (some (!(leI x0 57)))
     (some true)))
   (br (leI 48 x0)
    (some (!(leI x0 57)))
    (some true))) := by kernel_rfl
theorem zzWhite_eq (K : Nat) (x0 : Int) : zzWhite (K + 1) x0 =
  br (eqI x0 9)
  (some true)
  (br (eqI x0 10)
   (some true)
   (br (eqI x0 12)
    (some true)
    (br (eqI x0 13)
     (some true)
     (some (eqI x0 32))))) := by kernel_rfl
theorem zzBreak_eq (K : Nat) (x0 : Int) : zzBreak (K + 1) x0 =
  br (eqI x0 13)
  (some true)
  (some (eqI x0 10)) := by kernel_rfl
theorem zzBlankEnd_eq (K : Nat) (x0 : ByteArray) : zzBlankEnd (K + 1) x0 =
  br (ltI (ByteArray.size x0 : Int) 2)
  (zzBlankEnd_j0 K K x0 (ByteArray.size x0 : Int) true)
  (chk (leI 0 (IntKind.i64.wrap ((ByteArray.size x0 : Int) - 1))) (chk (ltI (IntKind.i64.wrap ((ByteArray.size x0 : Int) - 1)) (ByteArray.size x0 : Int)) (zzBlankEnd_j0 K K x0 (ByteArray.size x0 : Int) (!eqI (bt x0 (IntKind.i64.wrap ((ByteArray.size x0 : Int) - 1))) 10)))) := by kernel_rfl
theorem zzBlankEnd_j0_eq (K k : Nat) (x0 : ByteArray) (x3 : Int) (x14 : Bool) : zzBlankEnd_j0 K (k + 1) x0 x3 x14 =
  br x14
  (some false)
  (zzBlankEnd_j1 K k x0 x3) := by kernel_rfl
theorem zzBlankEnd_j1_eq (K k : Nat) (x0 : ByteArray) (x3 : Int) : zzBlankEnd_j1 K (k + 1) x0 x3 =
  chk (leI 0 (IntKind.i64.wrap (x3 - 2))) (chk (ltI (IntKind.i64.wrap (x3 - 2)) (ByteArray.size x0 : Int)) (br (eqI (bt x0 (IntKind.i64.wrap (x3 - 2))) 10)
  (some true)
  (br (ltI 2 x3)
   (chk (leI 0 (IntKind.i64.wrap (x3 - 2))) (chk (ltI (IntKind.i64.wrap (x3 - 2)) (ByteArray.size x0 : Int)) (br (eqI (bt x0 (IntKind.i64.wrap (x3 - 2))) 13)
    (chk (leI 0 (IntKind.i64.wrap (x3 - 3))) (chk (ltI (IntKind.i64.wrap (x3 - 3)) (ByteArray.size x0 : Int)) (some (eqI (bt x0 (IntKind.i64.wrap (x3 - 3))) 10))))
    (some false))))
   (some false)))) := by kernel_rfl
theorem decodeRuneInStringSlow_eq (K : Nat) (x0 : ByteArray) : decodeRuneInStringSlow (K + 1) x0 =
  br (ltI (ByteArray.size x0 : Int) 1)
  (some (65533, 0))
  (decodeRuneInStringSlow_j0 K K x0 (ByteArray.size x0 : Int)) := by kernel_rfl
theorem decodeRuneInStringSlow_j0_eq (K k : Nat) (x0 : ByteArray) (x4 : Int) : decodeRuneInStringSlow_j0 K (k + 1) x0 x4 =
  chk (leI 0 0) (chk (ltI 0 (ByteArray.size x0 : Int)) (none)) := by kernel_rfl
theorem RuneStart_eq (K : Nat) (x0 : Int) : RuneStart (K + 1) x0 =
  some (!eqI (IntKind.u8.wrap (BitVec.toNat (BitVec.ofInt (IntKind.u8).bits x0 &&& BitVec.ofInt (IntKind.u8).bits 192))) 128) := by kernel_rfl
end Go.Proofs.YtmlfecgppnffgaaDoor.E
