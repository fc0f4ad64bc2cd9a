import Derived.Test.YtaabfadjemmibaaDoorEvT
/- Written by a program of this session (wip/tools/mkev.py): what the functions' places evaluate to. Not trusted: Lean checks it. -/
namespace Go.Proofs.YtaabfadjemmibaaDoor.E
open Go.Ev
theorem DiffCleanupSemantic_j1_eq (K k : Nat) (i0 : Int) (x0 : List TS1.den) (x1 : List TS2.den) (x5 : Bool) : DiffCleanupSemantic_j1 K (k + 1) i0 x0 x1 x5 =
  br x5
  (Option.bind (DiffCleanupMerge K (nth TS1 x0 i0) x1) fun t3 =>
   DiffCleanupSemantic_j3 K k i0 x0 t3)
  (DiffCleanupSemantic_j3 K k i0 x0 x1) := by kernel_rfl
theorem DiffCleanupSemantic_j2_eq (K k : Nat) (i0 : Int) (x0 : List TS1.den) (x1 : List TS2.den) (x5 : Bool) (x6 : List Int) (x7 : ByteArray) (x8 : Int) (x9 : Int) (x10 : Int) (x11 : Int) (x12 : Int) : DiffCleanupSemantic_j2 K (k + 1) i0 x0 x1 x5 x6 x7 x8 x9 x10 x11 x12 =
  Option.bind (Max K (i2fI x9) (i2fI x10)) fun t4 =>
  chk (f2iOkI .i64 t4) (Option.bind (Max K (i2fI x11) (i2fI x12)) fun t5 =>
  chk (f2iOkI .i64 t5) (Option.bind (RuneCountInString K x7) fun t6 =>
  br (ltI 0 t6)
  (Option.bind (RuneCountInString K x7) fun t7 =>
   br (leI t7 (f2iI .i64 t4))
   (Option.bind (RuneCountInString K x7) fun t8 =>
    DiffCleanupSemantic_j4 K k i0 x0 x1 x5 x6 x7 x8 x9 x10 x11 x12 (leI t8 (f2iI .i64 t5)))
   (DiffCleanupSemantic_j4 K k i0 x0 x1 x5 x6 x7 x8 x9 x10 x11 x12 false))
  (DiffCleanupSemantic_j4 K k i0 x0 x1 x5 x6 x7 x8 x9 x10 x11 x12 false))) := by kernel_rfl
theorem DiffCleanupSemantic_j3_eq (K k : Nat) (i0 : Int) (x0 : List TS1.den) (x1 : List TS2.den) : DiffCleanupSemantic_j3 K (k + 1) i0 x0 x1 =
  Option.bind (DiffCleanupSemanticLossless K (nth TS1 x0 i0) x1) fun t9 =>
  DiffCleanupSemantic_l1 K k i0 x0 t9 1 := by kernel_rfl
theorem DiffCleanupSemantic_j4_eq (K k : Nat) (i0 : Int) (x0 : List TS1.den) (x1 : List TS2.den) (x5 : Bool) (x6 : List Int) (x7 : ByteArray) (x8 : Int) (x9 : Int) (x10 : Int) (x11 : Int) (x12 : Int) (x93 : Bool) : DiffCleanupSemantic_j4 K (k + 1) i0 x0 x1 x5 x6 x7 x8 x9 x10 x11 x12 x93 =
  br x93
  (chk (leI 0 (IntKind.i64.wrap ((List.length x6 : Int) - 1))) (chk (ltI (IntKind.i64.wrap ((List.length x6 : Int) - 1)) (List.length x6 : Int)) (Option.bind (splice K x1 (nth (.int .i64) x6 (IntKind.i64.wrap ((List.length x6 : Int) - 1))) 0 [((-1), x7)]) fun t10 =>
   chk (leI 0 (IntKind.i64.wrap ((nth (.int .i64) x6 (IntKind.i64.wrap ((List.length x6 : Int) - 1))) + 1))) (chk (ltI (IntKind.i64.wrap ((nth (.int .i64) x6 (IntKind.i64.wrap ((List.length x6 : Int) - 1))) + 1)) (List.length t10 : Int)) (chk (leI 0 0) (chk (leI 0 (IntKind.i64.wrap ((List.length x6 : Int) - 1))) (chk (leI (IntKind.i64.wrap ((List.length x6 : Int) - 1)) (List.length x6 : Int)) (br (ltI 0 ((IntKind.i64.wrap ((List.length x6 : Int) - 1)) - 0))
   (chk (leI 0 0) (chk (leI 0 (IntKind.i64.wrap (((IntKind.i64.wrap ((List.length x6 : Int) - 1)) - 0) - 1))) (chk (leI (IntKind.i64.wrap (((IntKind.i64.wrap ((List.length x6 : Int) - 1)) - 0) - 1)) ((IntKind.i64.wrap ((List.length x6 : Int) - 1)) - 0)) (DiffCleanupSemantic_j5 K k i0 x0 (List.set t10 (Int.toNat (IntKind.i64.wrap ((nth (.int .i64) x6 (IntKind.i64.wrap ((List.length x6 : Int) - 1))) + 1))) (1, (nth TS2 t10 (IntKind.i64.wrap ((nth (.int .i64) x6 (IntKind.i64.wrap ((List.length x6 : Int) - 1))) + 1))).2)) (List.take (Int.toNat (0 + (IntKind.i64.wrap (((IntKind.i64.wrap ((List.length x6 : Int) - 1)) - 0) - 1)))) x6)))))
   (DiffCleanupSemantic_j5 K k i0 x0 (List.set t10 (Int.toNat (IntKind.i64.wrap ((nth (.int .i64) x6 (IntKind.i64.wrap ((List.length x6 : Int) - 1))) + 1))) (1, (nth TS2 t10 (IntKind.i64.wrap ((nth (.int .i64) x6 (IntKind.i64.wrap ((List.length x6 : Int) - 1))) + 1))).2)) (List.take (Int.toNat (IntKind.i64.wrap ((List.length x6 : Int) - 1))) x6))))))))))
  (DiffCleanupSemantic_l0 K k i0 x0 x1 x5 x6 x7 (IntKind.i64.wrap (x8 + 1)) x9 x10 x11 x12) := by kernel_rfl
theorem DiffCleanupSemantic_l1_eq (K k : Nat) (i0 : Int) (x0 : List TS1.den) (x1 : List TS2.den) (x8 : Int) : DiffCleanupSemantic_l1 K (k + 1) i0 x0 x1 x8 =
  br (ltI x8 (List.length x1 : Int))
  (DiffCleanupSemantic_j6 K k i0 x0 x1 x8)
  (some x1) := by kernel_rfl
theorem DiffCleanupSemantic_j5_eq (K k : Nat) (i0 : Int) (x0 : List TS1.den) (x1 : List TS2.den) (x6 : List Int) : DiffCleanupSemantic_j5 K (k + 1) i0 x0 x1 x6 =
  br (ltI 0 (List.length x6 : Int))
  (chk (leI 0 (IntKind.i64.wrap ((List.length x6 : Int) - 1))) (chk (ltI (IntKind.i64.wrap ((List.length x6 : Int) - 1)) (List.length x6 : Int)) (DiffCleanupSemantic_l0 K k i0 x0 x1 true x6 (⟨#[]⟩ : ByteArray) (IntKind.i64.wrap ((nth (.int .i64) x6 (IntKind.i64.wrap ((List.length x6 : Int) - 1))) + 1)) 0 0 0 0)))
  (DiffCleanupSemantic_l0 K k i0 x0 x1 true x6 (⟨#[]⟩ : ByteArray) (IntKind.i64.wrap ((-1) + 1)) 0 0 0 0) := by kernel_rfl
theorem DiffCleanupSemantic_j6_eq (K k : Nat) (i0 : Int) (x0 : List TS1.den) (x1 : List TS2.den) (x8 : Int) : DiffCleanupSemantic_j6 K (k + 1) i0 x0 x1 x8 =
  chk (leI 0 (IntKind.i64.wrap (x8 - 1))) (chk (ltI (IntKind.i64.wrap (x8 - 1)) (List.length x1 : Int)) (br (eqI ((nth TS2 x1 (IntKind.i64.wrap (x8 - 1))).1) (-1))
  (chk (leI 0 x8) (chk (ltI x8 (List.length x1 : Int)) (DiffCleanupSemantic_j7 K k i0 x0 x1 x8 (eqI ((nth TS2 x1 x8).1) 1))))
  (DiffCleanupSemantic_j7 K k i0 x0 x1 x8 false))) := by kernel_rfl
theorem DiffCleanupSemantic_j7_eq (K k : Nat) (i0 : Int) (x0 : List TS1.den) (x1 : List TS2.den) (x8 : Int) (x160 : Bool) : DiffCleanupSemantic_j7 K (k + 1) i0 x0 x1 x8 x160 =
  br x160
  (chk (leI 0 (IntKind.i64.wrap (x8 - 1))) (chk (ltI (IntKind.i64.wrap (x8 - 1)) (List.length x1 : Int)) (chk (leI 0 x8) (chk (ltI x8 (List.length x1 : Int)) (Option.bind (DiffCommonOverlap K (nth TS1 x0 i0) ((nth TS2 x1 (IntKind.i64.wrap (x8 - 1))).2) ((nth TS2 x1 x8).2)) fun t11 =>
   Option.bind (DiffCommonOverlap K (nth TS1 x0 i0) ((nth TS2 x1 x8).2) ((nth TS2 x1 (IntKind.i64.wrap (x8 - 1))).2)) fun t12 =>
   br (leI t12 t11)
   (Option.bind (RuneCountInString K ((nth TS2 x1 (IntKind.i64.wrap (x8 - 1))).2)) fun t13 =>
    chk (faOkI .quo (i2fI t13) 4611686018427387904) (br ((foI .gt (i2fI t11) (faI .quo (i2fI t13) 4611686018427387904)) || (foI .eq (i2fI t11) (faI .quo (i2fI t13) 4611686018427387904)))
    (DiffCleanupSemantic_j8 K k i0 x0 x1 x8 ((nth TS2 x1 (IntKind.i64.wrap (x8 - 1))).2) ((nth TS2 x1 x8).2) t11 true)
    (Option.bind (RuneCountInString K ((nth TS2 x1 x8).2)) fun t14 =>
     chk (faOkI .quo (i2fI t14) 4611686018427387904) (DiffCleanupSemantic_j8 K k i0 x0 x1 x8 ((nth TS2 x1 (IntKind.i64.wrap (x8 - 1))).2) ((nth TS2 x1 x8).2) t11 ((foI .gt (i2fI t11) (faI .quo (i2fI t14) 4611686018427387904)) || (foI .eq (i2fI t11) (faI .quo (i2fI t14) 4611686018427387904)))))))
   (Option.bind (RuneCountInString K ((nth TS2 x1 (IntKind.i64.wrap (x8 - 1))).2)) fun t15 =>
    chk (faOkI .quo (i2fI t15) 4611686018427387904) (br ((foI .gt (i2fI t12) (faI .quo (i2fI t15) 4611686018427387904)) || (foI .eq (i2fI t12) (faI .quo (i2fI t15) 4611686018427387904)))
    (DiffCleanupSemantic_j9 K k i0 x0 x1 x8 ((nth TS2 x1 (IntKind.i64.wrap (x8 - 1))).2) ((nth TS2 x1 x8).2) t12 true)
    (Option.bind (RuneCountInString K ((nth TS2 x1 x8).2)) fun t16 =>
     chk (faOkI .quo (i2fI t16) 4611686018427387904) (DiffCleanupSemantic_j9 K k i0 x0 x1 x8 ((nth TS2 x1 (IntKind.i64.wrap (x8 - 1))).2) ((nth TS2 x1 x8).2) t12 ((foI .gt (i2fI t12) (faI .quo (i2fI t16) 4611686018427387904)) || (foI .eq (i2fI t12) (faI .quo (i2fI t16) 4611686018427387904))))))))))))
  (DiffCleanupSemantic_l1 K k i0 x0 x1 (IntKind.i64.wrap (x8 + 1))) := by kernel_rfl
theorem DiffCleanupSemantic_j8_eq (K k : Nat) (i0 : Int) (x0 : List TS1.den) (x1 : List TS2.den) (x8 : Int) (x16 : ByteArray) (x17 : ByteArray) (x18 : Int) (x198 : Bool) : DiffCleanupSemantic_j8 K (k + 1) i0 x0 x1 x8 x16 x17 x18 x198 =
  br x198
  (chk (leI 0 0) (chk (leI 0 x18) (chk (leI x18 (ByteArray.size x17 : Int)) (Option.bind (splice K x1 x8 0 [(0, (ByteArray.extract x17 (Int.toNat 0) (Int.toNat x18)))]) fun t17 =>
   chk (leI 0 0) (chk (leI 0 (IntKind.i64.wrap ((ByteArray.size x16 : Int) - x18))) (chk (leI (IntKind.i64.wrap ((ByteArray.size x16 : Int) - x18)) (ByteArray.size x16 : Int)) (chk (leI 0 (IntKind.i64.wrap (x8 - 1))) (chk (ltI (IntKind.i64.wrap (x8 - 1)) (List.length t17 : Int)) (chk (leI 0 x18) (chk (leI x18 (ByteArray.size x17 : Int)) (chk (leI (ByteArray.size x17 : Int) (ByteArray.size x17 : Int)) (chk (leI 0 (IntKind.i64.wrap (x8 + 1))) (chk (ltI (IntKind.i64.wrap (x8 + 1)) (List.length (List.set t17 (Int.toNat (IntKind.i64.wrap (x8 - 1))) ((nth TS2 t17 (IntKind.i64.wrap (x8 - 1))).1, (ByteArray.extract x16 (Int.toNat 0) (Int.toNat (IntKind.i64.wrap ((ByteArray.size x16 : Int) - x18)))))) : Int)) (DiffCleanupSemantic_l1 K k i0 x0 (List.set (List.set t17 (Int.toNat (IntKind.i64.wrap (x8 - 1))) ((nth TS2 t17 (IntKind.i64.wrap (x8 - 1))).1, (ByteArray.extract x16 (Int.toNat 0) (Int.toNat (IntKind.i64.wrap ((ByteArray.size x16 : Int) - x18)))))) (Int.toNat (IntKind.i64.wrap (x8 + 1))) ((nth TS2 (List.set t17 (Int.toNat (IntKind.i64.wrap (x8 - 1))) ((nth TS2 t17 (IntKind.i64.wrap (x8 - 1))).1, (ByteArray.extract x16 (Int.toNat 0) (Int.toNat (IntKind.i64.wrap ((ByteArray.size x16 : Int) - x18)))))) (IntKind.i64.wrap (x8 + 1))).1, (ByteArray.extract x17 (Int.toNat x18) (Int.toNat (ByteArray.size x17 : Int))))) (IntKind.i64.wrap ((IntKind.i64.wrap ((IntKind.i64.wrap (x8 + 1)) + 1)) + 1))))))))))))))))
  (DiffCleanupSemantic_l1 K k i0 x0 x1 (IntKind.i64.wrap ((IntKind.i64.wrap (x8 + 1)) + 1))) := by kernel_rfl
theorem DiffCleanupSemantic_j9_eq (K k : Nat) (i0 : Int) (x0 : List TS1.den) (x1 : List TS2.den) (x8 : Int) (x16 : ByteArray) (x17 : ByteArray) (x19 : Int) (x243 : Bool) : DiffCleanupSemantic_j9 K (k + 1) i0 x0 x1 x8 x16 x17 x19 x243 =
  br x243
  (chk (leI 0 0) (chk (leI 0 x19) (chk (leI x19 (ByteArray.size x16 : Int)) (Option.bind (splice K x1 x8 0 [(0, (ByteArray.extract x16 (Int.toNat 0) (Int.toNat x19)))]) fun t18 =>
   chk (leI 0 (IntKind.i64.wrap (x8 - 1))) (chk (ltI (IntKind.i64.wrap (x8 - 1)) (List.length t18 : Int)) (chk (leI 0 0) (chk (leI 0 (IntKind.i64.wrap ((ByteArray.size x17 : Int) - x19))) (chk (leI (IntKind.i64.wrap ((ByteArray.size x17 : Int) - x19)) (ByteArray.size x17 : Int)) (chk (leI 0 (IntKind.i64.wrap (x8 - 1))) (chk (ltI (IntKind.i64.wrap (x8 - 1)) (List.length (List.set t18 (Int.toNat (IntKind.i64.wrap (x8 - 1))) (1, (nth TS2 t18 (IntKind.i64.wrap (x8 - 1))).2)) : Int)) (chk (leI 0 (IntKind.i64.wrap (x8 + 1))) (chk (ltI (IntKind.i64.wrap (x8 + 1)) (List.length (List.set (List.set t18 (Int.toNat (IntKind.i64.wrap (x8 - 1))) (1, (nth TS2 t18 (IntKind.i64.wrap (x8 - 1))).2)) (Int.toNat (IntKind.i64.wrap (x8 - 1))) ((nth TS2 (List.set t18 (Int.toNat (IntKind.i64.wrap (x8 - 1))) (1, (nth TS2 t18 (IntKind.i64.wrap (x8 - 1))).2)) (IntKind.i64.wrap (x8 - 1))).1, (ByteArray.extract x17 (Int.toNat 0) (Int.toNat (IntKind.i64.wrap ((ByteArray.size x17 : Int) - x19)))))) : Int)) (chk (leI 0 x19) (chk (leI x19 (ByteArray.size x16 : Int)) (chk (leI (ByteArray.size x16 : Int) (ByteArray.size x16 : Int)) (chk (leI 0 (IntKind.i64.wrap (x8 + 1))) (chk (ltI (IntKind.i64.wrap (x8 + 1)) (List.length (List.set (List.set (List.set t18 (Int.toNat (IntKind.i64.wrap (x8 - 1))) (1, (nth TS2 t18 (IntKind.i64.wrap (x8 - 1))).2)) (Int.toNat (IntKind.i64.wrap (x8 - 1))) ((nth TS2 (List.set t18 (Int.toNat (IntKind.i64.wrap (x8 - 1))) (1, (nth TS2 t18 (IntKind.i64.wrap (x8 - 1))).2)) (IntKind.i64.wrap (x8 - 1))).1, (ByteArray.extract x17 (Int.toNat 0) (Int.toNat (IntKind.i64.wrap ((ByteArray.size x17 : Int) - x19)))))) (Int.toNat (IntKind.i64.wrap (x8 + 1))) ((-1), (nth TS2 (List.set (List.set t18 (Int.toNat (IntKind.i64.wrap (x8 - 1))) (1, (nth TS2 t18 (IntKind.i64.wrap (x8 - 1))).2)) (Int.toNat (IntKind.i64.wrap (x8 - 1))) ((nth TS2 (List.set t18 (Int.toNat (IntKind.i64.wrap (x8 - 1))) (1, (nth TS2 t18 (IntKind.i64.wrap (x8 - 1))).2)) (IntKind.i64.wrap (x8 - 1))).1, (ByteArray.extract x17 (Int.toNat 0) (Int.toNat (IntKind.i64.wrap ((ByteArray.size x17 : Int) - x19)))))) (IntKind.i64.wrap (x8 + 1))).2)) : Int)) (DiffCleanupSemantic_l1 K k i0 x0 (List.set (List.set (List.set (List.set t18 (Int.toNat (IntKind.i64.wrap (x8 - 1))) (1, (nth TS2 t18 (IntKind.i64.wrap (x8 - 1))).2)) (Int.toNat (IntKind.i64.wrap (x8 - 1))) ((nth TS2 (List.set t18 (Int.toNat (IntKind.i64.wrap (x8 - 1))) (1, (nth TS2 t18 (IntKind.i64.wrap (x8 - 1))).2)) (IntKind.i64.wrap (x8 - 1))).1, (ByteArray.extract x17 (Int.toNat 0) (Int.toNat (IntKind.i64.wrap ((ByteArray.size x17 : Int) - x19)))))) (Int.toNat (IntKind.i64.wrap (x8 + 1))) ((-1), (nth TS2 (List.set (List.set t18 (Int.toNat (IntKind.i64.wrap (x8 - 1))) (1, (nth TS2 t18 (IntKind.i64.wrap (x8 - 1))).2)) (Int.toNat (IntKind.i64.wrap (x8 - 1))) ((nth TS2 (List.set t18 (Int.toNat (IntKind.i64.wrap (x8 - 1))) (1, (nth TS2 t18 (IntKind.i64.wrap (x8 - 1))).2)) (IntKind.i64.wrap (x8 - 1))).1, (ByteArray.extract x17 (Int.toNat 0) (Int.toNat (IntKind.i64.wrap ((ByteArray.size x17 : Int) - x19)))))) (IntKind.i64.wrap (x8 + 1))).2)) (Int.toNat (IntKind.i64.wrap (x8 + 1))) ((nth TS2 (List.set (List.set (List.set t18 (Int.toNat (IntKind.i64.wrap (x8 - 1))) (1, (nth TS2 t18 (IntKind.i64.wrap (x8 - 1))).2)) (Int.toNat (IntKind.i64.wrap (x8 - 1))) ((nth TS2 (List.set t18 (Int.toNat (IntKind.i64.wrap (x8 - 1))) (1, (nth TS2 t18 (IntKind.i64.wrap (x8 - 1))).2)) (IntKind.i64.wrap (x8 - 1))).1, (ByteArray.extract x17 (Int.toNat 0) (Int.toNat (IntKind.i64.wrap ((ByteArray.size x17 : Int) - x19)))))) (Int.toNat (IntKind.i64.wrap (x8 + 1))) ((-1), (nth TS2 (List.set (List.set t18 (Int.toNat (IntKind.i64.wrap (x8 - 1))) (1, (nth TS2 t18 (IntKind.i64.wrap (x8 - 1))).2)) (Int.toNat (IntKind.i64.wrap (x8 - 1))) ((nth TS2 (List.set t18 (Int.toNat (IntKind.i64.wrap (x8 - 1))) (1, (nth TS2 t18 (IntKind.i64.wrap (x8 - 1))).2)) (IntKind.i64.wrap (x8 - 1))).1, (ByteArray.extract x17 (Int.toNat 0) (Int.toNat (IntKind.i64.wrap ((ByteArray.size x17 : Int) - x19)))))) (IntKind.i64.wrap (x8 + 1))).2)) (IntKind.i64.wrap (x8 + 1))).1, (ByteArray.extract x16 (Int.toNat x19) (Int.toNat (ByteArray.size x16 : Int))))) (IntKind.i64.wrap ((IntKind.i64.wrap ((IntKind.i64.wrap (x8 + 1)) + 1)) + 1))))))))))))))))))))
  (DiffCleanupSemantic_l1 K k i0 x0 x1 (IntKind.i64.wrap ((IntKind.i64.wrap (x8 + 1)) + 1))) := by kernel_rfl
theorem CleanChars_eq (K : Nat) (x0 : ByteArray) (x1 : Int) : CleanChars (K + 1) x0 x1 =
  br (leI (ByteArray.size x0 : Int) x1)
  (chk (nleI (List.length (runesI x0)) 70368744177664) (some (eqS (strOfRunes (runesI x0)) x0)))
  (some false) := by kernel_rfl
theorem New_eq (K : Nat) : New (K + 1) =
  some (1000000000, (4, (1000, (4602678819172646912, (4, (32, 4602678819172646912)))))) := by kernel_rfl
theorem DiffCommonSuffix_eq (K : Nat) (x0 : TS1.den) (x1 : ByteArray) (x2 : ByteArray) : DiffCommonSuffix (K + 1) x0 x1 x2 =
  chk (nleI (List.length (runesI x1)) 70368744177664) (chk (nleI (List.length (runesI x2)) 70368744177664) (Option.bind (commonSuffixLength K (runesI x1) (runesI x2)) fun t1 =>
  some t1)) := by kernel_rfl
theorem diffCleanupSemanticScore_eq (K : Nat) (x0 : ByteArray) (x1 : ByteArray) : diffCleanupSemanticScore (K + 1) x0 x1 =
  br (eqI (ByteArray.size x0 : Int) 0)
  (diffCleanupSemanticScore_j0 K K x0 x1 true)
  (diffCleanupSemanticScore_j0 K K x0 x1 (eqI (ByteArray.size x1 : Int) 0)) := by kernel_rfl
theorem diffCleanupSemanticScore_j0_eq (K k : Nat) (x0 : ByteArray) (x1 : ByteArray) (x24 : Bool) : diffCleanupSemanticScore_j0 K (k + 1) x0 x1 x24 =
  br x24
  (some 6)
  (diffCleanupSemanticScore_j1 K k x0 x1) := by kernel_rfl
theorem diffCleanupSemanticScore_j1_eq (K k : Nat) (x0 : ByteArray) (x1 : ByteArray) : diffCleanupSemanticScore_j1 K (k + 1) x0 x1 =
  Option.bind (DecodeLastRuneInString K x0) fun t1 =>
  Option.bind (DecodeRuneInString K x1) fun t2 =>
  Option.bind (zzNotAlnum K t1.1) fun t3 =>
  Option.bind (zzNotAlnum K t2.1) fun t4 =>
  br t3
  (Option.bind (zzWhite K t1.1) fun t5 =>
   diffCleanupSemanticScore_j2 K k x0 x1 t1.1 t2.1 t3 t4 t5)
  (diffCleanupSemanticScore_j2 K k x0 x1 t1.1 t2.1 t3 t4 false) := by kernel_rfl
theorem diffCleanupSemanticScore_j2_eq (K k : Nat) (x0 : ByteArray) (x1 : ByteArray) (x5 : Int) (x7 : Int) (x9 : Bool) (x10 : Bool) (x11 : Bool) : diffCleanupSemanticScore_j2 K (k + 1) x0 x1 x5 x7 x9 x10 x11 =
  br x10
  (Option.bind (zzWhite K x7) fun t6 =>
   diffCleanupSemanticScore_j3 K k x0 x1 x5 x7 x9 x10 x11 t6)
  (diffCleanupSemanticScore_j3 K k x0 x1 x5 x7 x9 x10 x11 false) := by kernel_rfl
theorem diffCleanupSemanticScore_j3_eq (K k : Nat) (x0 : ByteArray) (x1 : ByteArray) (x5 : Int) (x7 : Int) (x9 : Bool) (x10 : Bool) (x11 : Bool) (x12 : Bool) : diffCleanupSemanticScore_j3 K (k + 1) x0 x1 x5 x7 x9 x10 x11 x12 =
  br x11
  (Option.bind (zzBreak K x5) fun t7 =>
   diffCleanupSemanticScore_j4 K k x0 x1 x7 x9 x10 x11 x12 t7)
  (diffCleanupSemanticScore_j4 K k x0 x1 x7 x9 x10 x11 x12 false) := by kernel_rfl
theorem diffCleanupSemanticScore_j4_eq (K k : Nat) (x0 : ByteArray) (x1 : ByteArray) (x7 : Int) (x9 : Bool) (x10 : Bool) (x11 : Bool) (x12 : Bool) (x13 : Bool) : diffCleanupSemanticScore_j4 K (k + 1) x0 x1 x7 x9 x10 x11 x12 x13 =
  br x12
  (Option.bind (zzBreak K x7) fun t8 =>
   diffCleanupSemanticScore_j5 K k x0 x1 x9 x10 x11 x12 x13 t8)
  (diffCleanupSemanticScore_j5 K k x0 x1 x9 x10 x11 x12 x13 false) := by kernel_rfl
theorem diffCleanupSemanticScore_j5_eq (K k : Nat) (x0 : ByteArray) (x1 : ByteArray) (x9 : Bool) (x10 : Bool) (x11 : Bool) (x12 : Bool) (x13 : Bool) (x14 : Bool) : diffCleanupSemanticScore_j5 K (k + 1) x0 x1 x9 x10 x11 x12 x13 x14 =
  br x13
  (Option.bind (zzBlankEnd K x0) fun t9 =>
   diffCleanupSemanticScore_j6 K k x1 x9 x10 x11 x12 x13 x14 t9)
  (diffCleanupSemanticScore_j6 K k x1 x9 x10 x11 x12 x13 x14 false) := by kernel_rfl
theorem diffCleanupSemanticScore_j6_eq (K k : Nat) (x1 : ByteArray) (x9 : Bool) (x10 : Bool) (x11 : Bool) (x12 : Bool) (x13 : Bool) (x14 : Bool) (x15 : Bool) : diffCleanupSemanticScore_j6 K (k + 1) x1 x9 x10 x11 x12 x13 x14 x15 =
  br x14
  (Option.bind (zzBlankEnd K x1) fun t10 =>
   diffCleanupSemanticScore_j7 K k x9 x10 x11 x12 x13 x14 x15 t10)
  (diffCleanupSemanticScore_j7 K k x9 x10 x11 x12 x13 x14 x15 false) := by kernel_rfl
theorem diffCleanupSemanticScore_j7_eq (K k : Nat) (x9 : Bool) (x10 : Bool) (x11 : Bool) (x12 : Bool) (x13 : Bool) (x14 : Bool) (x15 : Bool) (x16 : Bool) : diffCleanupSemanticScore_j7 K (k + 1) x9 x10 x11 x12 x13 x14 x15 x16 =
  br x15
  (diffCleanupSemanticScore_j8 K k x9 x10 x11 x12 x13 x14 true)
  (diffCleanupSemanticScore_j8 K k x9 x10 x11 x12 x13 x14 x16) := by kernel_rfl
theorem diffCleanupSemanticScore_j8_eq (K k : Nat) (x9 : Bool) (x10 : Bool) (x11 : Bool) (x12 : Bool) (x13 : Bool) (x14 : Bool) (x72 : Bool) : diffCleanupSemanticScore_j8 K (k + 1) x9 x10 x11 x12 x13 x14 x72 =
  br x72
  (some 5)
  (br x13
   (diffCleanupSemanticScore_j9 K k x9 x10 x11 x12 true)
   (diffCleanupSemanticScore_j9 K k x9 x10 x11 x12 x14)) := by kernel_rfl
theorem diffCleanupSemanticScore_j9_eq (K k : Nat) (x9 : Bool) (x10 : Bool) (x11 : Bool) (x12 : Bool) (x76 : Bool) : diffCleanupSemanticScore_j9 K (k + 1) x9 x10 x11 x12 x76 =
  br x76
  (some 4)
  (br x9
   (br (!x11)
    (diffCleanupSemanticScore_j10 K k x9 x10 x11 x12 x12)
    (diffCleanupSemanticScore_j10 K k x9 x10 x11 x12 false))
   (diffCleanupSemanticScore_j10 K k x9 x10 x11 x12 false)) := by kernel_rfl
theorem diffCleanupSemanticScore_j10_eq (K k : Nat) (x9 : Bool) (x10 : Bool) (x11 : Bool) (x12 : Bool) (x84 : Bool) : diffCleanupSemanticScore_j10 K (k + 1) x9 x10 x11 x12 x84 =
  br x84
  (some 3)
  (br x11
   (diffCleanupSemanticScore_j11 K k x9 x10 true)
   (diffCleanupSemanticScore_j11 K k x9 x10 x12)) := by kernel_rfl
theorem diffCleanupSemanticScore_j11_eq (K k : Nat) (x9 : Bool) (x10 : Bool) (x88 : Bool) : diffCleanupSemanticScore_j11 K (k + 1) x9 x10 x88 =
  br x88
  (some 2)
  (br x9
   (diffCleanupSemanticScore_j12 K k true)
   (diffCleanupSemanticScore_j12 K k x10)) := by kernel_rfl
theorem diffCleanupSemanticScore_j12_eq (K k : Nat) (x92 : Bool) : diffCleanupSemanticScore_j12 K (k + 1) x92 =
  br x92
  (some 1)
  (some 0) := by kernel_rfl
theorem DecodeRuneInString_eq (K : Nat) (x0 : ByteArray) : DecodeRuneInString (K + 1) x0 =
  br (!(eqS x0 (⟨#[]⟩ : ByteArray)))
  (chk (leI 0 0) (chk (ltI 0 (ByteArray.size x0 : Int)) (DecodeRuneInString_j0 K K x0 (ltI (bt x0 0) 128))))
  (DecodeRuneInString_j0 K K x0 false) := by kernel_rfl
theorem DecodeRuneInString_j0_eq (K k : Nat) (x0 : ByteArray) (x10 : Bool) : DecodeRuneInString_j0 K (k + 1) x0 x10 =
  br x10
  (chk (leI 0 0) (chk (ltI 0 (ByteArray.size x0 : Int)) (some ((IntKind.i32.wrap (bt x0 0)), 1))))
  (Option.bind (decodeRuneInStringSlow K x0) fun t1 =>
   some (t1.1, t1.2)) := by kernel_rfl
theorem splice_eq (K : Nat) (x0 : List TS2.den) (x1 : Int) (x2 : Int) (x3 : List TS2.den) : splice (K + 1) x0 x1 x2 x3 =
  br (eqI (List.length x3 : Int) x2)
  (chk (leI 0 x1) (chk (leI x1 (List.length x0 : Int)) (chk (leI (List.length x0 : Int) (List.length x0 : Int)) (some (cpL x0 x3 (Int.toNat x1) (Int.toNat ((List.length x0 : Int) - x1)))))))
  (splice_j0 K K x0 x1 x2 x3) := by kernel_rfl
theorem splice_j0_eq (K k : Nat) (x0 : List TS2.den) (x1 : Int) (x2 : Int) (x3 : List TS2.den) : splice_j0 K (k + 1) x0 x1 x2 x3 =
  br (ltI (List.length x3 : Int) x2)
  (chk (leI 0 x1) (chk (leI x1 (List.length x0 : Int)) (chk (leI (List.length x0 : Int) (List.length x0 : Int)) (chk (leI 0 (IntKind.i64.wrap (x1 + (List.length x3 : Int)))) (chk (leI (IntKind.i64.wrap (x1 + (List.length x3 : Int))) (List.length (cpL x0 x3 (Int.toNat x1) (Int.toNat ((List.length x0 : Int) - x1))) : Int)) (chk (leI (List.length (cpL x0 x3 (Int.toNat x1) (Int.toNat ((List.length x0 : Int) - x1))) : Int) (List.length (cpL x0 x3 (Int.toNat x1) (Int.toNat ((List.length x0 : Int) - x1))) : Int)) (chk (leI 0 (IntKind.i64.wrap (x1 + x2))) (chk (leI (IntKind.i64.wrap (x1 + x2)) (List.length (cpL x0 x3 (Int.toNat x1) (Int.toNat ((List.length x0 : Int) - x1))) : Int)) (chk (leI (List.length (cpL x0 x3 (Int.toNat x1) (Int.toNat ((List.length x0 : Int) - x1))) : Int) (List.length (cpL x0 x3 (Int.toNat x1) (Int.toNat ((List.length x0 : Int) - x1))) : Int)) (chk (leI 0 (IntKind.i64.wrap ((IntKind.i64.wrap ((List.length (cpL (cpL x0 x3 (Int.toNat x1) (Int.toNat ((List.length x0 : Int) - x1))) (List.take (Int.toNat (List.length (cpL x0 x3 (Int.toNat x1) (Int.toNat ((List.length x0 : Int) - x1))) : Int) - Int.toNat (IntKind.i64.wrap (x1 + x2))) (List.drop (Int.toNat (IntKind.i64.wrap (x1 + x2))) (cpL x0 x3 (Int.toNat x1) (Int.toNat ((List.length x0 : Int) - x1))))) (Int.toNat (IntKind.i64.wrap (x1 + (List.length x3 : Int)))) (Int.toNat ((List.length (cpL x0 x3 (Int.toNat x1) (Int.toNat ((List.length x0 : Int) - x1))) : Int) - (IntKind.i64.wrap (x1 + (List.length x3 : Int)))))) : Int) - x2)) + (List.length x3 : Int)))) (chk (leI (IntKind.i64.wrap ((IntKind.i64.wrap ((List.length (cpL (cpL x0 x3 (Int.toNat x1) (Int.toNat ((List.length x0 : Int) - x1))) (List.take (Int.toNat (List.length (cpL x0 x3 (Int.toNat x1) (Int.toNat ((List.length x0 : Int) - x1))) : Int) - Int.toNat (IntKind.i64.wrap (x1 + x2))) (List.drop (Int.toNat (IntKind.i64.wrap (x1 + x2))) (cpL x0 x3 (Int.toNat x1) (Int.toNat ((List.length x0 : Int) - x1))))) (Int.toNat (IntKind.i64.wrap (x1 + (List.length x3 : Int)))) (Int.toNat ((List.length (cpL x0 x3 (Int.toNat x1) (Int.toNat ((List.length x0 : Int) - x1))) : Int) - (IntKind.i64.wrap (x1 + (List.length x3 : Int)))))) : Int) - x2)) + (List.length x3 : Int))) (List.length (cpL (cpL x0 x3 (Int.toNat x1) (Int.toNat ((List.length x0 : Int) - x1))) (List.take (Int.toNat (List.length (cpL x0 x3 (Int.toNat x1) (Int.toNat ((List.length x0 : Int) - x1))) : Int) - Int.toNat (IntKind.i64.wrap (x1 + x2))) (List.drop (Int.toNat (IntKind.i64.wrap (x1 + x2))) (cpL x0 x3 (Int.toNat x1) (Int.toNat ((List.length x0 : Int) - x1))))) (Int.toNat (IntKind.i64.wrap (x1 + (List.length x3 : Int)))) (Int.toNat ((List.length (cpL x0 x3 (Int.toNat x1) (Int.toNat ((List.length x0 : Int) - x1))) : Int) - (IntKind.i64.wrap (x1 + (List.length x3 : Int)))))) : Int)) (chk (leI (List.length (cpL (cpL x0 x3 (Int.toNat x1) (Int.toNat ((List.length x0 : Int) - x1))) (List.take (Int.toNat (List.length (cpL x0 x3 (Int.toNat x1) (Int.toNat ((List.length x0 : Int) - x1))) : Int) - Int.toNat (IntKind.i64.wrap (x1 + x2))) (List.drop (Int.toNat (IntKind.i64.wrap (x1 + x2))) (cpL x0 x3 (Int.toNat x1) (Int.toNat ((List.length x0 : Int) - x1))))) (Int.toNat (IntKind.i64.wrap (x1 + (List.length x3 : Int)))) (Int.toNat ((List.length (cpL x0 x3 (Int.toNat x1) (Int.toNat ((List.length x0 : Int) - x1))) : Int) - (IntKind.i64.wrap (x1 + (List.length x3 : Int)))))) : Int) (List.length (cpL (cpL x0 x3 (Int.toNat x1) (Int.toNat ((List.length x0 : Int) - x1))) (List.take (Int.toNat (List.length (cpL x0 x3 (Int.toNat x1) (Int.toNat ((List.length x0 : Int) - x1))) : Int) - Int.toNat (IntKind.i64.wrap (x1 + x2))) (List.drop (Int.toNat (IntKind.i64.wrap (x1 + x2))) (cpL x0 x3 (Int.toNat x1) (Int.toNat ((List.length x0 : Int) - x1))))) (Int.toNat (IntKind.i64.wrap (x1 + (List.length x3 : Int)))) (Int.toNat ((List.length (cpL x0 x3 (Int.toNat x1) (Int.toNat ((List.length x0 : Int) - x1))) : Int) - (IntKind.i64.wrap (x1 + (List.length x3 : Int)))))) : Int)) (splice_l0 K k (cpL (cpL x0 x3 (Int.toNat x1) (Int.toNat ((List.length x0 : Int) - x1))) (List.take (Int.toNat (List.length (cpL x0 x3 (Int.toNat x1) (Int.toNat ((List.length x0 : Int) - x1))) : Int) - Int.toNat (IntKind.i64.wrap (x1 + x2))) (List.drop (Int.toNat (IntKind.i64.wrap (x1 + x2))) (cpL x0 x3 (Int.toNat x1) (Int.toNat ((List.length x0 : Int) - x1))))) (Int.toNat (IntKind.i64.wrap (x1 + (List.length x3 : Int)))) (Int.toNat ((List.length (cpL x0 x3 (Int.toNat x1) (Int.toNat ((List.length x0 : Int) - x1))) : Int) - (IntKind.i64.wrap (x1 + (List.length x3 : Int)))))) (IntKind.i64.wrap ((IntKind.i64.wrap ((List.length (cpL (cpL x0 x3 (Int.toNat x1) (Int.toNat ((List.length x0 : Int) - x1))) (List.take (Int.toNat (List.length (cpL x0 x3 (Int.toNat x1) (Int.toNat ((List.length x0 : Int) - x1))) : Int) - Int.toNat (IntKind.i64.wrap (x1 + x2))) (List.drop (Int.toNat (IntKind.i64.wrap (x1 + x2))) (cpL x0 x3 (Int.toNat x1) (Int.toNat ((List.length x0 : Int) - x1))))) (Int.toNat (IntKind.i64.wrap (x1 + (List.length x3 : Int)))) (Int.toNat ((List.length (cpL x0 x3 (Int.toNat x1) (Int.toNat ((List.length x0 : Int) - x1))) : Int) - (IntKind.i64.wrap (x1 + (List.length x3 : Int)))))) : Int) - x2)) + (List.length x3 : Int))) (IntKind.i64.wrap ((IntKind.i64.wrap ((List.length (cpL (cpL x0 x3 (Int.toNat x1) (Int.toNat ((List.length x0 : Int) - x1))) (List.take (Int.toNat (List.length (cpL x0 x3 (Int.toNat x1) (Int.toNat ((List.length x0 : Int) - x1))) : Int) - Int.toNat (IntKind.i64.wrap (x1 + x2))) (List.drop (Int.toNat (IntKind.i64.wrap (x1 + x2))) (cpL x0 x3 (Int.toNat x1) (Int.toNat ((List.length x0 : Int) - x1))))) (Int.toNat (IntKind.i64.wrap (x1 + (List.length x3 : Int)))) (Int.toNat ((List.length (cpL x0 x3 (Int.toNat x1) (Int.toNat ((List.length x0 : Int) - x1))) : Int) - (IntKind.i64.wrap (x1 + (List.length x3 : Int)))))) : Int) - x2)) + (List.length x3 : Int))) (List.length (cpL (cpL x0 x3 (Int.toNat x1) (Int.toNat ((List.length x0 : Int) - x1))) (List.take (Int.toNat (List.length (cpL x0 x3 (Int.toNat x1) (Int.toNat ((List.length x0 : Int) - x1))) : Int) - Int.toNat (IntKind.i64.wrap (x1 + x2))) (List.drop (Int.toNat (IntKind.i64.wrap (x1 + x2))) (cpL x0 x3 (Int.toNat x1) (Int.toNat ((List.length x0 : Int) - x1))))) (Int.toNat (IntKind.i64.wrap (x1 + (List.length x3 : Int)))) (Int.toNat ((List.length (cpL x0 x3 (Int.toNat x1) (Int.toNat ((List.length x0 : Int) - x1))) : Int) - (IntKind.i64.wrap (x1 + (List.length x3 : Int)))))) : Int) ((List.length (cpL (cpL x0 x3 (Int.toNat x1) (Int.toNat ((List.length x0 : Int) - x1))) (List.take (Int.toNat (List.length (cpL x0 x3 (Int.toNat x1) (Int.toNat ((List.length x0 : Int) - x1))) : Int) - Int.toNat (IntKind.i64.wrap (x1 + x2))) (List.drop (Int.toNat (IntKind.i64.wrap (x1 + x2))) (cpL x0 x3 (Int.toNat x1) (Int.toNat ((List.length x0 : Int) - x1))))) (Int.toNat (IntKind.i64.wrap (x1 + (List.length x3 : Int)))) (Int.toNat ((List.length (cpL x0 x3 (Int.toNat x1) (Int.toNat ((List.length x0 : Int) - x1))) : Int) - (IntKind.i64.wrap (x1 + (List.length x3 : Int)))))) : Int) - (IntKind.i64.wrap ((IntKind.i64.wrap ((List.length (cpL (cpL x0 x3 (Int.toNat x1) (Int.toNat ((List.length x0 : Int) - x1))) (List.take (Int.toNat (List.length (cpL x0 x3 (Int.toNat x1) (Int.toNat ((List.length x0 : Int) - x1))) : Int) - Int.toNat (IntKind.i64.wrap (x1 + x2))) (List.drop (Int.toNat (IntKind.i64.wrap (x1 + x2))) (cpL x0 x3 (Int.toNat x1) (Int.toNat ((List.length x0 : Int) - x1))))) (Int.toNat (IntKind.i64.wrap (x1 + (List.length x3 : Int)))) (Int.toNat ((List.length (cpL x0 x3 (Int.toNat x1) (Int.toNat ((List.length x0 : Int) - x1))) : Int) - (IntKind.i64.wrap (x1 + (List.length x3 : Int)))))) : Int) - x2)) + (List.length x3 : Int)))) 0)))))))))))))
  (splice_j1 K k x0 x1 x2 x3) := by kernel_rfl
theorem splice_l0_eq (K k : Nat) (x0 : List TS2.den) (x9 : Int) (a10 : Int) (b10 : Int) (x55 : Int) (x56 : Int) : splice_l0 K (k + 1) x0 x9 a10 b10 x55 x56 =
  br (ltI x56 x55)
  (splice_j2 K k x0 x9 a10 b10 x55 x56)
  (chk (leI 0 0) (chk (leI 0 x9) (chk (leI x9 (List.length x0 : Int)) (some (List.take (Int.toNat x9) x0))))) := by kernel_rfl
theorem splice_j1_eq (K k : Nat) (x0 : List TS2.den) (x1 : Int) (x2 : Int) (x3 : List TS2.den) : splice_j1 K (k + 1) x0 x1 x2 x3 =
  splice_l1 K k x0 x1 x2 x3 (IntKind.i64.wrap ((IntKind.i64.wrap ((List.length x0 : Int) - x2)) + (List.length x3 : Int))) := by kernel_rfl
theorem splice_j2_eq (K k : Nat) (x0 : List TS2.den) (x9 : Int) (a10 : Int) (b10 : Int) (x55 : Int) (x56 : Int) : splice_j2 K (k + 1) x0 x9 a10 b10 x55 x56 =
  chk (leI 0 x56) (chk (ltI x56 (b10 - a10)) (splice_l0 K k (List.set x0 (Int.toNat (a10 + x56)) (0, (⟨#[]⟩ : ByteArray))) x9 a10 b10 x55 (IntKind.i64.wrap (x56 + 1)))) := by kernel_rfl
theorem splice_l1_eq (K k : Nat) (x0 : List TS2.den) (x1 : Int) (x2 : Int) (x3 : List TS2.den) (x12 : Int) : splice_l1 K (k + 1) x0 x1 x2 x3 x12 =
  br (ltI (List.length x0 : Int) x12)
  (splice_j3 K k x0 x1 x2 x3 x12)
  (splice_j4 K k x0 x1 x2 x3) := by kernel_rfl
theorem splice_j3_eq (K k : Nat) (x0 : List TS2.den) (x1 : Int) (x2 : Int) (x3 : List TS2.den) (x12 : Int) : splice_j3 K (k + 1) x0 x1 x2 x3 x12 =
  chk (ltI ((List.length x0 : Int) + (List.length [(0, (⟨#[]⟩ : ByteArray))] : Int)) 1000000000000) (splice_l1 K k (x0 ++ [(0, (⟨#[]⟩ : ByteArray))]) x1 x2 x3 x12) := by kernel_rfl
theorem splice_j4_eq (K k : Nat) (x0 : List TS2.den) (x1 : Int) (x2 : Int) (x3 : List TS2.den) : splice_j4 K (k + 1) x0 x1 x2 x3 =
  chk (leI 0 (IntKind.i64.wrap (x1 + (List.length x3 : Int)))) (chk (leI (IntKind.i64.wrap (x1 + (List.length x3 : Int))) (List.length x0 : Int)) (chk (leI (List.length x0 : Int) (List.length x0 : Int)) (chk (leI 0 (IntKind.i64.wrap (x1 + x2))) (chk (leI (IntKind.i64.wrap (x1 + x2)) (List.length x0 : Int)) (chk (leI (List.length x0 : Int) (List.length x0 : Int)) (chk (leI 0 x1) (chk (leI x1 (List.length (cpL x0 (List.take (Int.toNat (List.length x0 : Int) - Int.toNat (IntKind.i64.wrap (x1 + x2))) (List.drop (Int.toNat (IntKind.i64.wrap (x1 + x2))) x0)) (Int.toNat (IntKind.i64.wrap (x1 + (List.length x3 : Int)))) (Int.toNat ((List.length x0 : Int) - (IntKind.i64.wrap (x1 + (List.length x3 : Int)))))) : Int)) (chk (leI (List.length (cpL x0 (List.take (Int.toNat (List.length x0 : Int) - Int.toNat (IntKind.i64.wrap (x1 + x2))) (List.drop (Int.toNat (IntKind.i64.wrap (x1 + x2))) x0)) (Int.toNat (IntKind.i64.wrap (x1 + (List.length x3 : Int)))) (Int.toNat ((List.length x0 : Int) - (IntKind.i64.wrap (x1 + (List.length x3 : Int)))))) : Int) (List.length (cpL x0 (List.take (Int.toNat (List.length x0 : Int) - Int.toNat (IntKind.i64.wrap (x1 + x2))) (List.drop (Int.toNat (IntKind.i64.wrap (x1 + x2))) x0)) (Int.toNat (IntKind.i64.wrap (x1 + (List.length x3 : Int)))) (Int.toNat ((List.length x0 : Int) - (IntKind.i64.wrap (x1 + (List.length x3 : Int)))))) : Int)) (some (cpL (cpL x0 (List.take (Int.toNat (List.length x0 : Int) - Int.toNat (IntKind.i64.wrap (x1 + x2))) (List.drop (Int.toNat (IntKind.i64.wrap (x1 + x2))) x0)) (Int.toNat (IntKind.i64.wrap (x1 + (List.length x3 : Int)))) (Int.toNat ((List.length x0 : Int) - (IntKind.i64.wrap (x1 + (List.length x3 : Int)))))) x3 (Int.toNat x1) (Int.toNat ((List.length (cpL x0 (List.take (Int.toNat (List.length x0 : Int) - Int.toNat (IntKind.i64.wrap (x1 + x2))) (List.drop (Int.toNat (IntKind.i64.wrap (x1 + x2))) x0)) (Int.toNat (IntKind.i64.wrap (x1 + (List.length x3 : Int)))) (Int.toNat ((List.length x0 : Int) - (IntKind.i64.wrap (x1 + (List.length x3 : Int)))))) : Int) - x1)))))))))))) := by kernel_rfl
theorem commonPrefixLength_eq (K : Nat) (x0 : List Int) (x1 : List Int) : commonPrefixLength (K + 1) x0 x1 =
  commonPrefixLength_l0 K K x0 x1 0 := by kernel_rfl
theorem commonPrefixLength_l0_eq (K k : Nat) (x0 : List Int) (x1 : List Int) (x5 : Int) : commonPrefixLength_l0 K (k + 1) x0 x1 x5 =
  br (ltI x5 (List.length x0 : Int))
  (br (ltI x5 (List.length x1 : Int))
   (commonPrefixLength_j0 K k x0 x1 x5)
   (some x5))
  (some x5) := by kernel_rfl
theorem commonPrefixLength_j0_eq (K k : Nat) (x0 : List Int) (x1 : List Int) (x5 : Int) : commonPrefixLength_j0 K (k + 1) x0 x1 x5 =
  chk (leI 0 x5) (chk (ltI x5 (List.length x0 : Int)) (chk (leI 0 x5) (chk (ltI x5 (List.length x1 : Int)) (br (!eqI (nth (.int .i32) x0 x5) (nth (.int .i32) x1 x5))
  (some x5)
  (commonPrefixLength_l0 K k x0 x1 (IntKind.i64.wrap (x5 + 1))))))) := by kernel_rfl
theorem commonSuffixLength_eq (K : Nat) (x0 : List Int) (x1 : List Int) : commonSuffixLength (K + 1) x0 x1 =
  commonSuffixLength_l0 K K x0 x1 (List.length x0 : Int) (List.length x1 : Int) 0 := by kernel_rfl
theorem commonSuffixLength_l0_eq (K k : Nat) (x0 : List Int) (x1 : List Int) (x5 : Int) (x6 : Int) (x7 : Int) : commonSuffixLength_l0 K (k + 1) x0 x1 x5 x6 x7 =
  br (ltI (IntKind.i64.wrap (x5 - 1)) 0)
  (commonSuffixLength_j0 K k x0 x1 (IntKind.i64.wrap (x5 - 1)) (IntKind.i64.wrap (x6 - 1)) x7 true)
  (br (ltI (IntKind.i64.wrap (x6 - 1)) 0)
   (commonSuffixLength_j0 K k x0 x1 (IntKind.i64.wrap (x5 - 1)) (IntKind.i64.wrap (x6 - 1)) x7 true)
   (chk (leI 0 (IntKind.i64.wrap (x5 - 1))) (chk (ltI (IntKind.i64.wrap (x5 - 1)) (List.length x0 : Int)) (chk (leI 0 (IntKind.i64.wrap (x6 - 1))) (chk (ltI (IntKind.i64.wrap (x6 - 1)) (List.length x1 : Int)) (commonSuffixLength_j0 K k x0 x1 (IntKind.i64.wrap (x5 - 1)) (IntKind.i64.wrap (x6 - 1)) x7 (!eqI (nth (.int .i32) x0 (IntKind.i64.wrap (x5 - 1))) (nth (.int .i32) x1 (IntKind.i64.wrap (x6 - 1)))))))))) := by kernel_rfl
theorem commonSuffixLength_j0_eq (K k : Nat) (x0 : List Int) (x1 : List Int) (x5 : Int) (x6 : Int) (x7 : Int) (x34 : Bool) : commonSuffixLength_j0 K (k + 1) x0 x1 x5 x6 x7 x34 =
  br x34
  (some x7)
  (commonSuffixLength_l0 K k x0 x1 x5 x6 (IntKind.i64.wrap (x7 + 1))) := by kernel_rfl
theorem strings_HasSuffix_eq (K : Nat) (x0 : ByteArray) (x1 : ByteArray) : strings_HasSuffix (K + 1) x0 x1 =
  Option.bind (stringslite_HasSuffix K x0 x1) fun t1 =>
  some t1 := by kernel_rfl
theorem strings_HasPrefix_eq (K : Nat) (x0 : ByteArray) (x1 : ByteArray) : strings_HasPrefix (K + 1) x0 x1 =
  Option.bind (stringslite_HasPrefix K x0 x1) fun t1 =>
  some t1 := by kernel_rfl
theorem DiffCommonOverlap_eq (K : Nat) (x0 : TS1.den) (x1 : ByteArray) (x2 : ByteArray) : DiffCommonOverlap (K + 1) x0 x1 x2 =
  br (eqI (ByteArray.size x1 : Int) 0)
  (DiffCommonOverlap_j0 K K x1 x2 (ByteArray.size x1 : Int) (ByteArray.size x2 : Int) true)
  (DiffCommonOverlap_j0 K K x1 x2 (ByteArray.size x1 : Int) (ByteArray.size x2 : Int) (eqI (ByteArray.size x2 : Int) 0)) := by kernel_rfl
theorem DiffCommonOverlap_j0_eq (K k : Nat) (x1 : ByteArray) (x2 : ByteArray) (x7 : Int) (x8 : Int) (x23 : Bool) : DiffCommonOverlap_j0 K (k + 1) x1 x2 x7 x8 x23 =
  br x23
  (some 0)
  (DiffCommonOverlap_j1 K k x1 x2 x7 x8) := by kernel_rfl
theorem DiffCommonOverlap_j1_eq (K k : Nat) (x1 : ByteArray) (x2 : ByteArray) (x7 : Int) (x8 : Int) : DiffCommonOverlap_j1 K (k + 1) x1 x2 x7 x8 =
  br (ltI x8 x7)
  (chk (leI 0 (IntKind.i64.wrap (x7 - x8))) (chk (leI (IntKind.i64.wrap (x7 - x8)) (ByteArray.size x1 : Int)) (chk (leI (ByteArray.size x1 : Int) (ByteArray.size x1 : Int)) (DiffCommonOverlap_j2 K k (ByteArray.extract x1 (Int.toNat (IntKind.i64.wrap (x7 - x8))) (Int.toNat (ByteArray.size x1 : Int))) x2 x7 x8))))
  (br (ltI x7 x8)
   (chk (leI 0 0) (chk (leI 0 x7) (chk (leI x7 (ByteArray.size x2 : Int)) (DiffCommonOverlap_j2 K k x1 (ByteArray.extract x2 (Int.toNat 0) (Int.toNat x7)) x7 x8))))
   (DiffCommonOverlap_j2 K k x1 x2 x7 x8)) := by kernel_rfl
theorem DiffCommonOverlap_j2_eq (K k : Nat) (x1 : ByteArray) (x2 : ByteArray) (x7 : Int) (x8 : Int) : DiffCommonOverlap_j2 K (k + 1) x1 x2 x7 x8 =
  Option.bind (Min K (i2fI x7) (i2fI x8)) fun t1 =>
  chk (f2iOkI .i64 t1) (br (eqS x1 x2)
  (some (f2iI .i64 t1))
  (DiffCommonOverlap_j3 K k x1 x2 (f2iI .i64 t1))) := by kernel_rfl
theorem DiffCommonOverlap_j3_eq (K k : Nat) (x1 : ByteArray) (x2 : ByteArray) (x9 : Int) : DiffCommonOverlap_j3 K (k + 1) x1 x2 x9 =
  DiffCommonOverlap_l0 K k x1 x2 x9 0 1 := by kernel_rfl
theorem DiffCommonOverlap_l0_eq (K k : Nat) (x1 : ByteArray) (x2 : ByteArray) (x9 : Int) (x10 : Int) (x11 : Int) : DiffCommonOverlap_l0 K (k + 1) x1 x2 x9 x10 x11 =
  chk (leI 0 (IntKind.i64.wrap (x9 - x11))) (chk (leI (IntKind.i64.wrap (x9 - x11)) (ByteArray.size x1 : Int)) (chk (leI (ByteArray.size x1 : Int) (ByteArray.size x1 : Int)) (Option.bind (zzIndex K x2 (ByteArray.extract x1 (Int.toNat (IntKind.i64.wrap (x9 - x11))) (Int.toNat (ByteArray.size x1 : Int)))) fun t2 =>
  br (eqI t2 (-1))
  (some x10)
  (DiffCommonOverlap_j4 K k x1 x2 x9 x10 x11 t2)))) := by kernel_rfl
theorem DiffCommonOverlap_j4_eq (K k : Nat) (x1 : ByteArray) (x2 : ByteArray) (x9 : Int) (x10 : Int) (x11 : Int) (x13 : Int) : DiffCommonOverlap_j4 K (k + 1) x1 x2 x9 x10 x11 x13 =
  br (eqI x13 0)
  (DiffCommonOverlap_j5 K k x1 x2 x9 x10 (IntKind.i64.wrap (x11 + x13)) true)
  (chk (leI 0 (IntKind.i64.wrap (x9 - (IntKind.i64.wrap (x11 + x13))))) (chk (leI (IntKind.i64.wrap (x9 - (IntKind.i64.wrap (x11 + x13)))) (ByteArray.size x1 : Int)) (chk (leI (ByteArray.size x1 : Int) (ByteArray.size x1 : Int)) (chk (leI 0 0) (chk (leI 0 (IntKind.i64.wrap (x11 + x13))) (chk (leI (IntKind.i64.wrap (x11 + x13)) (ByteArray.size x2 : Int)) (DiffCommonOverlap_j5 K k x1 x2 x9 x10 (IntKind.i64.wrap (x11 + x13)) (eqS (ByteArray.extract x1 (Int.toNat (IntKind.i64.wrap (x9 - (IntKind.i64.wrap (x11 + x13))))) (Int.toNat (ByteArray.size x1 : Int))) (ByteArray.extract x2 (Int.toNat 0) (Int.toNat (IntKind.i64.wrap (x11 + x13)))))))))))) := by kernel_rfl
theorem DiffCommonOverlap_j5_eq (K k : Nat) (x1 : ByteArray) (x2 : ByteArray) (x9 : Int) (x10 : Int) (x11 : Int) (x73 : Bool) : DiffCommonOverlap_j5 K (k + 1) x1 x2 x9 x10 x11 x73 =
  br x73
  (DiffCommonOverlap_l0 K k x1 x2 x9 x11 (IntKind.i64.wrap (x11 + 1)))
  (DiffCommonOverlap_l0 K k x1 x2 x9 x10 x11) := by kernel_rfl
theorem DecodeLastRuneInString_eq (K : Nat) (x0 : ByteArray) : DecodeLastRuneInString (K + 1) x0 =
  br (eqI (ByteArray.size x0 : Int) 0)
  (some (65533, 0))
  (DecodeLastRuneInString_j0 K K x0 (ByteArray.size x0 : Int)) := by kernel_rfl
theorem DecodeLastRuneInString_j0_eq (K k : Nat) (x0 : ByteArray) (x4 : Int) : DecodeLastRuneInString_j0 K (k + 1) x0 x4 =
  chk (leI 0 (IntKind.i64.wrap (x4 - 1))) (chk (ltI (IntKind.i64.wrap (x4 - 1)) (ByteArray.size x0 : Int)) (br (ltI (IntKind.i32.wrap (bt x0 (IntKind.i64.wrap (x4 - 1)))) 128)
  (some ((IntKind.i32.wrap (bt x0 (IntKind.i64.wrap (x4 - 1)))), 1))
  (DecodeLastRuneInString_j1 K k x0 x4 (IntKind.i64.wrap (x4 - 1))))) := by kernel_rfl
theorem DecodeLastRuneInString_j1_eq (K k : Nat) (x0 : ByteArray) (x4 : Int) (x5 : Int) : DecodeLastRuneInString_j1 K (k + 1) x0 x4 x5 =
  DecodeLastRuneInString_l0 K k x0 x4 (IntKind.i64.wrap (x5 - 1)) (bif ltI (IntKind.i64.wrap (x4 - 4)) 0 then 0 else (IntKind.i64.wrap (x4 - 4))) := by kernel_rfl
theorem DecodeLastRuneInString_l0_eq (K k : Nat) (x0 : ByteArray) (x4 : Int) (x5 : Int) (x6 : Int) : DecodeLastRuneInString_l0 K (k + 1) x0 x4 x5 x6 =
  br (leI x6 x5)
  (DecodeLastRuneInString_j2 K k x0 x4 x5 x6)
  (DecodeLastRuneInString_j3 K k x0 x4 x5) := by kernel_rfl
end Go.Proofs.YtaabfadjemmibaaDoor.E
