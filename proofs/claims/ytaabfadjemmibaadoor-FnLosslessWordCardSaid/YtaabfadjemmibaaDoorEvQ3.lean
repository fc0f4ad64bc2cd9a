import Derived.Test.YtaabfadjemmibaaDoorEvT
/- Written by a program of this session (wip/tools/mkev.py): what the functions' places evaluate to. Not trusted: Lean checks it. -/
namespace Go.Proofs.YtaabfadjemmibaaDoor.E
open Go.Ev
theorem DecodeLastRuneInString_j2_eq (K k : Nat) (x0 : ByteArray) (x4 : Int) (x5 : Int) (x6 : Int) : DecodeLastRuneInString_j2 K (k + 1) x0 x4 x5 x6 =
  chk (leI 0 x5) (chk (ltI x5 (ByteArray.size x0 : Int)) (Option.bind (RuneStart K (bt x0 x5)) fun t1 =>
  br t1
  (DecodeLastRuneInString_j3 K k x0 x4 x5)
  (DecodeLastRuneInString_l0 K k x0 x4 (IntKind.i64.wrap (x5 - 1)) x6))) := by kernel_rfl
theorem DecodeLastRuneInString_j3_eq (K k : Nat) (x0 : ByteArray) (x4 : Int) (x5 : Int) : DecodeLastRuneInString_j3 K (k + 1) x0 x4 x5 =
  br (ltI x5 0)
  (DecodeLastRuneInString_j4 K k x0 x4 0)
  (DecodeLastRuneInString_j4 K k x0 x4 x5) := by kernel_rfl
theorem DecodeLastRuneInString_j4_eq (K k : Nat) (x0 : ByteArray) (x4 : Int) (x5 : Int) : DecodeLastRuneInString_j4 K (k + 1) x0 x4 x5 =
  chk (leI 0 x5) (chk (leI x5 x4) (chk (leI x4 (ByteArray.size x0 : Int)) (Option.bind (DecodeRuneInString K (ByteArray.extract x0 (Int.toNat x5) (Int.toNat x4))) fun t2 =>
  br (!eqI (IntKind.i64.wrap (x5 + t2.2)) x4)
  (some (65533, 1))
  (some (t2.1, t2.2))))) := by kernel_rfl
theorem zzNotAlnum_eq (K : Nat) (x0 : Int) : zzNotAlnum (K + 1) x0 =
  br (leI 97 x0)
  (br (leI x0 122)
   (some false)
   (br (leI 65 x0)
    (br (leI x0 90)
     (some false)
     (br (leI 48 x0)
      (some (!(leI x0 57)))
      (some true)))
    (br (leI 48 x0)
     (some (!(leI x0 57)))
     (some true))))
  (br (leI 65 x0)
   (br (leI x0 90)
    (some false)
    (br (leI 48 x0)
     (some (!(leI x0 57)))
     (some true)))
   (br (leI 48 x0)
    (some (!(leI x0 57)))
    (some true))) := by kernel_rfl
theorem zzWhite_eq (K : Nat) (x0 : Int) : zzWhite (K + 1) x0 =
  br (eqI x0 9)
  (some true)
  (br (eqI x0 10)
   (some true)
   (br (eqI x0 12)
    (some true)
    (br (eqI x0 13)
     (some true)
     (some (eqI x0 32))))) := by kernel_rfl
theorem zzBreak_eq (K : Nat) (x0 : Int) : zzBreak (K + 1) x0 =
  br (eqI x0 13)
  (some true)
  (some (eqI x0 10)) := by kernel_rfl
theorem zzBlankEnd_eq (K : Nat) (x0 : ByteArray) : zzBlankEnd (K + 1) x0 =
  br (ltI (ByteArray.size x0 : Int) 2)
  (zzBlankEnd_j0 K K x0 (ByteArray.size x0 : Int) true)
  (chk (leI 0 (IntKind.i64.wrap ((ByteArray.size x0 : Int) - 1))) (chk (ltI (IntKind.i64.wrap ((ByteArray.size x0 : Int) - 1)) (ByteArray.size x0 : Int)) (zzBlankEnd_j0 K K x0 (ByteArray.size x0 : Int) (!eqI (bt x0 (IntKind.i64.wrap ((ByteArray.size x0 : Int) - 1))) 10)))) := by kernel_rfl
theorem zzBlankEnd_j0_eq (K k : Nat) (x0 : ByteArray) (x3 : Int) (x14 : Bool) : zzBlankEnd_j0 K (k + 1) x0 x3 x14 =
  br x14
  (some false)
  (zzBlankEnd_j1 K k x0 x3) := by kernel_rfl
theorem zzBlankEnd_j1_eq (K k : Nat) (x0 : ByteArray) (x3 : Int) : zzBlankEnd_j1 K (k + 1) x0 x3 =
  chk (leI 0 (IntKind.i64.wrap (x3 - 2))) (chk (ltI (IntKind.i64.wrap (x3 - 2)) (ByteArray.size x0 : Int)) (br (eqI (bt x0 (IntKind.i64.wrap (x3 - 2))) 10)
  (some true)
  (br (ltI 2 x3)
   (chk (leI 0 (IntKind.i64.wrap (x3 - 2))) (chk (ltI (IntKind.i64.wrap (x3 - 2)) (ByteArray.size x0 : Int)) (br (eqI (bt x0 (IntKind.i64.wrap (x3 - 2))) 13)
    (chk (leI 0 (IntKind.i64.wrap (x3 - 3))) (chk (ltI (IntKind.i64.wrap (x3 - 3)) (ByteArray.size x0 : Int)) (some (eqI (bt x0 (IntKind.i64.wrap (x3 - 3))) 10))))
    (some false))))
   (some false)))) := by kernel_rfl
theorem decodeRuneInStringSlow_eq (K : Nat) (x0 : ByteArray) : decodeRuneInStringSlow (K + 1) x0 =
  br (ltI (ByteArray.size x0 : Int) 1)
  (some (65533, 0))
  (decodeRuneInStringSlow_j0 K K x0 (ByteArray.size x0 : Int)) := by kernel_rfl
theorem decodeRuneInStringSlow_j0_eq (K k : Nat) (x0 : ByteArray) (x4 : Int) : decodeRuneInStringSlow_j0 K (k + 1) x0 x4 =
  chk (leI 0 0) (chk (ltI 0 (ByteArray.size x0 : Int)) (none)) := by kernel_rfl
theorem stringslite_HasSuffix_eq (K : Nat) (x0 : ByteArray) (x1 : ByteArray) : stringslite_HasSuffix (K + 1) x0 x1 =
  br (leI (ByteArray.size x1 : Int) (ByteArray.size x0 : Int))
  (chk (leI 0 (IntKind.i64.wrap ((ByteArray.size x0 : Int) - (ByteArray.size x1 : Int)))) (chk (leI (IntKind.i64.wrap ((ByteArray.size x0 : Int) - (ByteArray.size x1 : Int))) (ByteArray.size x0 : Int)) (chk (leI (ByteArray.size x0 : Int) (ByteArray.size x0 : Int)) (some (eqS (ByteArray.extract x0 (Int.toNat (IntKind.i64.wrap ((ByteArray.size x0 : Int) - (ByteArray.size x1 : Int)))) (Int.toNat (ByteArray.size x0 : Int))) x1)))))
  (some false) := by kernel_rfl
theorem stringslite_HasPrefix_eq (K : Nat) (x0 : ByteArray) (x1 : ByteArray) : stringslite_HasPrefix (K + 1) x0 x1 =
  br (leI (ByteArray.size x1 : Int) (ByteArray.size x0 : Int))
  (chk (leI 0 0) (chk (leI 0 (ByteArray.size x1 : Int)) (chk (leI (ByteArray.size x1 : Int) (ByteArray.size x0 : Int)) (some (eqS (ByteArray.extract x0 (Int.toNat 0) (Int.toNat (ByteArray.size x1 : Int))) x1)))))
  (some false) := by kernel_rfl
theorem zzIndex_eq (K : Nat) (x0 : ByteArray) (x1 : ByteArray) : zzIndex (K + 1) x0 x1 =
  zzIndex_l0 K K x0 x1 0 := by kernel_rfl
theorem zzIndex_l0_eq (K k : Nat) (x0 : ByteArray) (x1 : ByteArray) (x5 : Int) : zzIndex_l0 K (k + 1) x0 x1 x5 =
  br (leI (IntKind.i64.wrap (x5 + (ByteArray.size x1 : Int))) (ByteArray.size x0 : Int))
  (zzIndex_j0 K k x0 x1 x5)
  (some (-1)) := by kernel_rfl
theorem zzIndex_j0_eq (K k : Nat) (x0 : ByteArray) (x1 : ByteArray) (x5 : Int) : zzIndex_j0 K (k + 1) x0 x1 x5 =
  chk (leI 0 x5) (chk (leI x5 (IntKind.i64.wrap (x5 + (ByteArray.size x1 : Int)))) (chk (leI (IntKind.i64.wrap (x5 + (ByteArray.size x1 : Int))) (ByteArray.size x0 : Int)) (br (eqS (ByteArray.extract x0 (Int.toNat x5) (Int.toNat (IntKind.i64.wrap (x5 + (ByteArray.size x1 : Int))))) x1)
  (some x5)
  (zzIndex_l0 K k x0 x1 (IntKind.i64.wrap (x5 + 1)))))) := by kernel_rfl
theorem RuneStart_eq (K : Nat) (x0 : Int) : RuneStart (K + 1) x0 =
  some (!eqI (IntKind.u8.wrap (BitVec.toNat (BitVec.ofInt (IntKind.u8).bits x0 &&& BitVec.ofInt (IntKind.u8).bits 192))) 128) := by kernel_rfl
end Go.Proofs.YtaabfadjemmibaaDoor.E
