import Derived.Test.YtfefjbifdbfmjaaDoorEvT
/- Written by a program of this session (wip/tools/mkev.py): what the functions' places evaluate to. Not trusted: Lean checks it. -/
namespace Go.Proofs.YtfefjbifdbfmjaaDoor.E
open Go.Ev
theorem deltaTokens_eq (K : Nat) (x0 : ByteArray) : deltaTokens (K + 1) x0 =
  deltaTokens_l0 K K x0 [] 0 0 := by kernel_rfl
theorem deltaTokens_l0_eq (K k : Nat) (x0 : ByteArray) (x3 : List ByteArray) (x4 : Int) (x5 : Int) : deltaTokens_l0 K (k + 1) x0 x3 x4 x5 =
  br (leI x5 (ByteArray.size x0 : Int))
  (deltaTokens_j0 K k x0 x3 x4 x5)
  (some x3) := by kernel_rfl
theorem deltaTokens_j0_eq (K k : Nat) (x0 : ByteArray) (x3 : List ByteArray) (x4 : Int) (x5 : Int) : deltaTokens_j0 K (k + 1) x0 x3 x4 x5 =
  br (eqI x5 (ByteArray.size x0 : Int))
  (deltaTokens_j1 K k x0 x3 x4 x5 true)
  (chk (leI 0 x5) (chk (ltI x5 (ByteArray.size x0 : Int)) (deltaTokens_j1 K k x0 x3 x4 x5 (eqI (bt x0 x5) 9)))) := by kernel_rfl
theorem deltaTokens_j1_eq (K k : Nat) (x0 : ByteArray) (x3 : List ByteArray) (x4 : Int) (x5 : Int) (x21 : Bool) : deltaTokens_j1 K (k + 1) x0 x3 x4 x5 x21 =
  br x21
  (br (ltI x4 x5)
   (chk (leI 0 x4) (chk (leI x4 x5) (chk (leI x5 (ByteArray.size x0 : Int)) (chk (ltI ((List.length x3 : Int) + (List.length ([(ByteArray.extract x0 (Int.toNat x4) (Int.toNat x5))] : List ByteArray) : Int)) 1000000000000) (deltaTokens_l0 K k x0 (x3 ++ ([(ByteArray.extract x0 (Int.toNat x4) (Int.toNat x5))] : List ByteArray)) (IntKind.i64.wrap (x5 + 1)) (IntKind.i64.wrap (x5 + 1)))))))
   (deltaTokens_l0 K k x0 x3 (IntKind.i64.wrap (x5 + 1)) (IntKind.i64.wrap (x5 + 1))))
  (deltaTokens_l0 K k x0 x3 x4 (IntKind.i64.wrap (x5 + 1))) := by kernel_rfl
theorem deltaText_eq (K : Nat) (x0 : ByteArray) : deltaText (K + 1) x0 =
  deltaText_l0 K K x0 [] 0 := by kernel_rfl
theorem deltaText_l0_eq (K k : Nat) (x0 : ByteArray) (x4 : List Int) (x5 : Int) : deltaText_l0 K (k + 1) x0 x4 x5 =
  br (ltI x5 (ByteArray.size x0 : Int))
  (deltaText_j0 K k x0 x4 x5)
  (some ((strOfBytes x4), true)) := by kernel_rfl
theorem deltaText_j0_eq (K k : Nat) (x0 : ByteArray) (x4 : List Int) (x5 : Int) : deltaText_j0 K (k + 1) x0 x4 x5 =
  chk (leI 0 x5) (chk (ltI x5 (ByteArray.size x0 : Int)) (br (!eqI (bt x0 x5) 37)
  (chk (leI 0 x5) (chk (ltI x5 (ByteArray.size x0 : Int)) (chk (ltI ((List.length x4 : Int) + (List.length ([(bt x0 x5)] : List Int) : Int)) 1000000000000) (deltaText_l0 K k x0 (x4 ++ ([(bt x0 x5)] : List Int)) (IntKind.i64.wrap (x5 + 1))))))
  (deltaText_j1 K k x0 x4 x5))) := by kernel_rfl
theorem deltaText_j1_eq (K k : Nat) (x0 : ByteArray) (x4 : List Int) (x5 : Int) : deltaText_j1 K (k + 1) x0 x4 x5 =
  br (leI (ByteArray.size x0 : Int) (IntKind.i64.wrap (x5 + 2)))
  (deltaText_j2 K k x0 x4 x5 true)
  (chk (leI 0 (IntKind.i64.wrap (x5 + 1))) (chk (ltI (IntKind.i64.wrap (x5 + 1)) (ByteArray.size x0 : Int)) (Option.bind (deltaHex K (bt x0 (IntKind.i64.wrap (x5 + 1)))) fun t1 =>
   br (ltI t1 0)
   (deltaText_j2 K k x0 x4 x5 true)
   (chk (leI 0 (IntKind.i64.wrap (x5 + 2))) (chk (ltI (IntKind.i64.wrap (x5 + 2)) (ByteArray.size x0 : Int)) (Option.bind (deltaHex K (bt x0 (IntKind.i64.wrap (x5 + 2)))) fun t2 =>
    deltaText_j2 K k x0 x4 x5 (ltI t2 0))))))) := by kernel_rfl
theorem deltaText_j2_eq (K k : Nat) (x0 : ByteArray) (x4 : List Int) (x5 : Int) (x42 : Bool) : deltaText_j2 K (k + 1) x0 x4 x5 x42 =
  br x42
  (some ((⟨#[]⟩ : ByteArray), false))
  (deltaText_j3 K k x0 x4 x5) := by kernel_rfl
theorem deltaText_j3_eq (K k : Nat) (x0 : ByteArray) (x4 : List Int) (x5 : Int) : deltaText_j3 K (k + 1) x0 x4 x5 =
  chk (leI 0 (IntKind.i64.wrap (x5 + 1))) (chk (ltI (IntKind.i64.wrap (x5 + 1)) (ByteArray.size x0 : Int)) (Option.bind (deltaHex K (bt x0 (IntKind.i64.wrap (x5 + 1)))) fun t3 =>
  chk (leI 0 (IntKind.i64.wrap (x5 + 2))) (chk (ltI (IntKind.i64.wrap (x5 + 2)) (ByteArray.size x0 : Int)) (Option.bind (deltaHex K (bt x0 (IntKind.i64.wrap (x5 + 2)))) fun t4 =>
  chk (ltI ((List.length x4 : Int) + (List.length ([(IntKind.u8.wrap (IntKind.i64.wrap ((IntKind.i64.wrap (16 * t3)) + t4)))] : List Int) : Int)) 1000000000000) (deltaText_l0 K k x0 (x4 ++ ([(IntKind.u8.wrap (IntKind.i64.wrap ((IntKind.i64.wrap (16 * t3)) + t4)))] : List Int)) (IntKind.i64.wrap ((IntKind.i64.wrap (x5 + 2)) + 1))))))) := by kernel_rfl
theorem deltaCount_eq (K : Nat) (x0 : ByteArray) : deltaCount (K + 1) x0 =
  br (!(eqS x0 (⟨#[]⟩ : ByteArray)))
  (chk (leI 0 0) (chk (ltI 0 (ByteArray.size x0 : Int)) (deltaCount_j0 K K x0 (eqI (bt x0 0) 45))))
  (deltaCount_j0 K K x0 false) := by kernel_rfl
theorem deltaCount_j0_eq (K k : Nat) (x0 : ByteArray) (x4 : Bool) : deltaCount_j0 K (k + 1) x0 x4 =
  br (!(eqS x0 (⟨#[]⟩ : ByteArray)))
  (chk (leI 0 0) (chk (ltI 0 (ByteArray.size x0 : Int)) (br (eqI (bt x0 0) 45)
   (deltaCount_j1 K k x0 x4 true)
   (chk (leI 0 0) (chk (ltI 0 (ByteArray.size x0 : Int)) (deltaCount_j1 K k x0 x4 (eqI (bt x0 0) 43)))))))
  (deltaCount_j1 K k x0 x4 false) := by kernel_rfl
theorem deltaCount_j1_eq (K k : Nat) (x0 : ByteArray) (x4 : Bool) (x25 : Bool) : deltaCount_j1 K (k + 1) x0 x4 x25 =
  br x25
  (chk (leI 0 1) (chk (leI 1 (ByteArray.size x0 : Int)) (chk (leI (ByteArray.size x0 : Int) (ByteArray.size x0 : Int)) (deltaCount_j2 K k (ByteArray.extract x0 (Int.toNat 1) (Int.toNat (ByteArray.size x0 : Int))) x4))))
  (deltaCount_j2 K k x0 x4) := by kernel_rfl
theorem deltaCount_j2_eq (K k : Nat) (x0 : ByteArray) (x4 : Bool) : deltaCount_j2 K (k + 1) x0 x4 =
  br (eqS x0 (⟨#[]⟩ : ByteArray))
  (some (0, false))
  (deltaCount_j3 K k x0 x4) := by kernel_rfl
theorem deltaCount_j3_eq (K k : Nat) (x0 : ByteArray) (x4 : Bool) : deltaCount_j3 K (k + 1) x0 x4 =
  deltaCount_l0 K k x0 x4 0 (ByteArray.size x0 : Int) 0 := by kernel_rfl
theorem deltaCount_l0_eq (K k : Nat) (x0 : ByteArray) (x4 : Bool) (x5 : Int) (x31 : Int) (x32 : Int) : deltaCount_l0 K (k + 1) x0 x4 x5 x31 x32 =
  br (ltI x32 x31)
  (deltaCount_j4 K k x0 x4 x5 x31 x32)
  (deltaCount_j5 K k x4 x5) := by kernel_rfl
theorem deltaCount_j4_eq (K k : Nat) (x0 : ByteArray) (x4 : Bool) (x5 : Int) (x31 : Int) (x32 : Int) : deltaCount_j4 K (k + 1) x0 x4 x5 x31 x32 =
  chk (leI 0 x32) (chk (ltI x32 (ByteArray.size x0 : Int)) (br (ltI (bt x0 x32) 48)
  (deltaCount_j6 K k x0 x4 x5 x32 x31 x32 true)
  (chk (leI 0 x32) (chk (ltI x32 (ByteArray.size x0 : Int)) (deltaCount_j6 K k x0 x4 x5 x32 x31 x32 (ltI 57 (bt x0 x32))))))) := by kernel_rfl
theorem deltaCount_j5_eq (K k : Nat) (x4 : Bool) (x5 : Int) : deltaCount_j5 K (k + 1) x4 x5 =
  br x4
  (some ((IntKind.i64.wrap (0 - x5)), true))
  (some (x5, true)) := by kernel_rfl
theorem deltaCount_j6_eq (K k : Nat) (x0 : ByteArray) (x4 : Bool) (x5 : Int) (x6 : Int) (x31 : Int) (x32 : Int) (x44 : Bool) : deltaCount_j6 K (k + 1) x0 x4 x5 x6 x31 x32 x44 =
  br x44
  (some (0, false))
  (deltaCount_j7 K k x0 x4 x5 x6 x31 x32) := by kernel_rfl
theorem deltaCount_j7_eq (K k : Nat) (x0 : ByteArray) (x4 : Bool) (x5 : Int) (x6 : Int) (x31 : Int) (x32 : Int) : deltaCount_j7 K (k + 1) x0 x4 x5 x6 x31 x32 =
  chk (leI 0 x6) (chk (ltI x6 (ByteArray.size x0 : Int)) (deltaCount_l0 K k x0 x4 (bif ltI 1099511627776 (IntKind.i64.wrap ((IntKind.i64.wrap (10 * x5)) + (IntKind.i64.wrap (IntKind.u8.wrap ((bt x0 x6) - 48))))) then 1099511627776 else (IntKind.i64.wrap ((IntKind.i64.wrap (10 * x5)) + (IntKind.i64.wrap (IntKind.u8.wrap ((bt x0 x6) - 48)))))) x31 (IntKind.i64.wrap (x32 + 1)))) := by kernel_rfl
theorem DeltaEscaped_eq (K : Nat) (x0 : ByteArray) : DeltaEscaped (K + 1) x0 =
  DeltaEscaped_l0 K K x0 [] (ByteArray.size x0 : Int) 0 := by kernel_rfl
theorem DeltaEscaped_l0_eq (K k : Nat) (x0 : ByteArray) (x3 : List Int) (x6 : Int) (x7 : Int) : DeltaEscaped_l0 K (k + 1) x0 x3 x6 x7 =
  br (ltI x7 x6)
  (DeltaEscaped_j0 K k x0 x3 x6 x7)
  (some (strOfBytes x3)) := by kernel_rfl
theorem DeltaEscaped_j0_eq (K k : Nat) (x0 : ByteArray) (x3 : List Int) (x6 : Int) (x7 : Int) : DeltaEscaped_j0 K (k + 1) x0 x3 x6 x7 =
  chk (leI 0 x7) (chk (ltI x7 (ByteArray.size x0 : Int)) (Option.bind (deltaPlain K (bt x0 x7)) fun t1 =>
  br t1
  (chk (leI 0 x7) (chk (ltI x7 (ByteArray.size x0 : Int)) (chk (ltI ((List.length x3 : Int) + (List.length ([(bt x0 x7)] : List Int) : Int)) 1000000000000) (DeltaEscaped_l0 K k x0 (x3 ++ ([(bt x0 x7)] : List Int)) x6 (IntKind.i64.wrap (x7 + 1))))))
  (chk (leI 0 x7) (chk (ltI x7 (ByteArray.size x0 : Int)) (chk (leI 0 4) (chk (leI 0 (Int.fdiv (bt x0 x7) (2 ^ min (Int.toNat 4) (IntKind.u8).bits))) (chk (ltI (Int.fdiv (bt x0 x7) (2 ^ min (Int.toNat 4) (IntKind.u8).bits)) (ByteArray.size (⟨#[48, 49, 50, 51, 52, 53, 54, 55, 56, 57, 65, 66, 67, 68, 69, 70]⟩ : ByteArray) : Int)) (chk (leI 0 x7) (chk (ltI x7 (ByteArray.size x0 : Int)) (chk (leI 0 (IntKind.u8.wrap (BitVec.toNat (BitVec.ofInt (IntKind.u8).bits (bt x0 x7) &&& BitVec.ofInt (IntKind.u8).bits 15)))) (chk (ltI (IntKind.u8.wrap (BitVec.toNat (BitVec.ofInt (IntKind.u8).bits (bt x0 x7) &&& BitVec.ofInt (IntKind.u8).bits 15))) (ByteArray.size (⟨#[48, 49, 50, 51, 52, 53, 54, 55, 56, 57, 65, 66, 67, 68, 69, 70]⟩ : ByteArray) : Int)) (chk (ltI ((List.length x3 : Int) + (List.length ([37, (bt (⟨#[48, 49, 50, 51, 52, 53, 54, 55, 56, 57, 65, 66, 67, 68, 69, 70]⟩ : ByteArray) (Int.fdiv (bt x0 x7) (2 ^ min (Int.toNat 4) (IntKind.u8).bits))), (bt (⟨#[48, 49, 50, 51, 52, 53, 54, 55, 56, 57, 65, 66, 67, 68, 69, 70]⟩ : ByteArray) (IntKind.u8.wrap (BitVec.toNat (BitVec.ofInt (IntKind.u8).bits (bt x0 x7) &&& BitVec.ofInt (IntKind.u8).bits 15))))] : List Int) : Int)) 1000000000000) (DeltaEscaped_l0 K k x0 (x3 ++ ([37, (bt (⟨#[48, 49, 50, 51, 52, 53, 54, 55, 56, 57, 65, 66, 67, 68, 69, 70]⟩ : ByteArray) (Int.fdiv (bt x0 x7) (2 ^ min (Int.toNat 4) (IntKind.u8).bits))), (bt (⟨#[48, 49, 50, 51, 52, 53, 54, 55, 56, 57, 65, 66, 67, 68, 69, 70]⟩ : ByteArray) (IntKind.u8.wrap (BitVec.toNat (BitVec.ofInt (IntKind.u8).bits (bt x0 x7) &&& BitVec.ofInt (IntKind.u8).bits 15))))] : List Int)) x6 (IntKind.i64.wrap (x7 + 1))))))))))))))) := by kernel_rfl
theorem deltaNumber_eq (K : Nat) (x0 : Int) : deltaNumber (K + 1) x0 =
  deltaNumber_l0 K K x0 (⟨#[]⟩ : ByteArray) := by kernel_rfl
theorem deltaNumber_l0_eq (K k : Nat) (x0 : Int) (x3 : ByteArray) : deltaNumber_l0 K (k + 1) x0 x3 =
  br (leI 10 x0)
  (deltaNumber_j0 K k x0 x3)
  (deltaNumber_j1 K k x0 x3) := by kernel_rfl
theorem deltaNumber_j0_eq (K k : Nat) (x0 : Int) (x3 : ByteArray) : deltaNumber_j0 K (k + 1) x0 x3 =
  chk (!eqI 10 0) (chk (nleI (ByteArray.size (strOfBytes ([(IntKind.u8.wrap (IntKind.i64.wrap (48 + (Int.tmod x0 10))))] : List Int)) + ByteArray.size x3) 9223372036854775807) (chk (!eqI 10 0) (deltaNumber_l0 K k (IntKind.i64.wrap (Int.tdiv x0 10)) (ByteArray.append (strOfBytes ([(IntKind.u8.wrap (IntKind.i64.wrap (48 + (Int.tmod x0 10))))] : List Int)) x3)))) := by kernel_rfl
theorem deltaNumber_j1_eq (K k : Nat) (x0 : Int) (x3 : ByteArray) : deltaNumber_j1 K (k + 1) x0 x3 =
  chk (nleI (ByteArray.size (strOfBytes ([(IntKind.u8.wrap (IntKind.i64.wrap (48 + x0)))] : List Int)) + ByteArray.size x3) 9223372036854775807) (some (ByteArray.append (strOfBytes ([(IntKind.u8.wrap (IntKind.i64.wrap (48 + x0)))] : List Int)) x3)) := by kernel_rfl
theorem diffmatchpatch_New_eq (K : Nat) : diffmatchpatch_New (K + 1) =
  some (1000000000, (4, (1000, (4602678819172646912, (4, (32, 4602678819172646912)))))) := by kernel_rfl
theorem zzSplit_eq (K : Nat) (x0 : ByteArray) (x1 : ByteArray) : zzSplit (K + 1) x0 x1 =
  br (eqI (ByteArray.size x1 : Int) 0)
  (none)
  (zzSplit_l0 K K x0 x1 []) := by kernel_rfl
theorem zzSplit_l0_eq (K k : Nat) (x0 : ByteArray) (x1 : ByteArray) (x5 : List ByteArray) : zzSplit_l0 K (k + 1) x0 x1 x5 =
  Option.bind (zzIndex K x0 x1) fun t1 =>
  br (ltI t1 0)
  (chk (ltI ((List.length x5 : Int) + (List.length ([x0] : List ByteArray) : Int)) 1000000000000) (some (x5 ++ ([x0] : List ByteArray))))
  (zzSplit_j0 K k x0 x1 x5 t1) := by kernel_rfl
theorem zzSplit_j0_eq (K k : Nat) (x0 : ByteArray) (x1 : ByteArray) (x5 : List ByteArray) (x8 : Int) : zzSplit_j0 K (k + 1) x0 x1 x5 x8 =
  chk (leI 0 0) (chk (leI 0 x8) (chk (leI x8 (ByteArray.size x0 : Int)) (chk (ltI ((List.length x5 : Int) + (List.length ([(ByteArray.extract x0 (Int.toNat 0) (Int.toNat x8))] : List ByteArray) : Int)) 1000000000000) (chk (leI 0 (IntKind.i64.wrap (x8 + (ByteArray.size x1 : Int)))) (chk (leI (IntKind.i64.wrap (x8 + (ByteArray.size x1 : Int))) (ByteArray.size x0 : Int)) (chk (leI (ByteArray.size x0 : Int) (ByteArray.size x0 : Int)) (zzSplit_l0 K k (ByteArray.extract x0 (Int.toNat (IntKind.i64.wrap (x8 + (ByteArray.size x1 : Int)))) (Int.toNat (ByteArray.size x0 : Int))) x1 (x5 ++ ([(ByteArray.extract x0 (Int.toNat 0) (Int.toNat x8))] : List ByteArray))))))))) := by kernel_rfl
theorem zzReplace_eq (K : Nat) (x0 : ByteArray) (x1 : ByteArray) (x2 : ByteArray) : zzReplace (K + 1) x0 x1 x2 =
  zzReplace_l0 K K x0 x1 x2 (⟨#[]⟩ : ByteArray) := by kernel_rfl
theorem zzReplace_l0_eq (K k : Nat) (x0 : ByteArray) (x1 : ByteArray) (x2 : ByteArray) (x7 : ByteArray) : zzReplace_l0 K (k + 1) x0 x1 x2 x7 =
  Option.bind (zzIndex K x0 x1) fun t1 =>
  br (ltI t1 0)
  (chk (nleI (ByteArray.size x7 + ByteArray.size x0) 9223372036854775807) (some (ByteArray.append x7 x0)))
  (zzReplace_j0 K k x0 x1 x2 x7 t1) := by kernel_rfl
theorem zzReplace_j0_eq (K k : Nat) (x0 : ByteArray) (x1 : ByteArray) (x2 : ByteArray) (x7 : ByteArray) (x8 : Int) : zzReplace_j0 K (k + 1) x0 x1 x2 x7 x8 =
  chk (leI 0 0) (chk (leI 0 x8) (chk (leI x8 (ByteArray.size x0 : Int)) (chk (nleI (ByteArray.size (ByteArray.extract x0 (Int.toNat 0) (Int.toNat x8)) + ByteArray.size x2) 9223372036854775807) (chk (nleI (ByteArray.size x7 + ByteArray.size (ByteArray.append (ByteArray.extract x0 (Int.toNat 0) (Int.toNat x8)) x2)) 9223372036854775807) (chk (leI 0 (IntKind.i64.wrap (x8 + (ByteArray.size x1 : Int)))) (chk (leI (IntKind.i64.wrap (x8 + (ByteArray.size x1 : Int))) (ByteArray.size x0 : Int)) (chk (leI (ByteArray.size x0 : Int) (ByteArray.size x0 : Int)) (zzReplace_l0 K k (ByteArray.extract x0 (Int.toNat (IntKind.i64.wrap (x8 + (ByteArray.size x1 : Int)))) (Int.toNat (ByteArray.size x0 : Int))) x1 x2 (ByteArray.append x7 (ByteArray.append (ByteArray.extract x0 (Int.toNat 0) (Int.toNat x8)) x2)))))))))) := by kernel_rfl
theorem zzQueryUnescape_eq (K : Nat) (x0 : ByteArray) : zzQueryUnescape (K + 1) x0 =
  zzQueryUnescape_l0 K K x0 [] 0 := by kernel_rfl
theorem zzQueryUnescape_l0_eq (K k : Nat) (x0 : ByteArray) (x4 : List Int) (x5 : Int) : zzQueryUnescape_l0 K (k + 1) x0 x4 x5 =
  br (ltI x5 (ByteArray.size x0 : Int))
  (zzQueryUnescape_j0 K k x0 x4 x5)
  (some ((strOfBytes x4), ())) := by kernel_rfl
theorem zzQueryUnescape_j0_eq (K k : Nat) (x0 : ByteArray) (x4 : List Int) (x5 : Int) : zzQueryUnescape_j0 K (k + 1) x0 x4 x5 =
  chk (leI 0 x5) (chk (ltI x5 (ByteArray.size x0 : Int)) (br (eqI (bt x0 x5) 37)
  (br (leI (ByteArray.size x0 : Int) (IntKind.i64.wrap (x5 + 2)))
   (zzQueryUnescape_j1 K k x0 x4 x5 true)
   (chk (leI 0 (IntKind.i64.wrap (x5 + 1))) (chk (ltI (IntKind.i64.wrap (x5 + 1)) (ByteArray.size x0 : Int)) (Option.bind (zzDigit K (bt x0 (IntKind.i64.wrap (x5 + 1)))) fun t1 =>
    br (ltI 15 t1)
    (zzQueryUnescape_j1 K k x0 x4 x5 true)
    (chk (leI 0 (IntKind.i64.wrap (x5 + 2))) (chk (ltI (IntKind.i64.wrap (x5 + 2)) (ByteArray.size x0 : Int)) (Option.bind (zzDigit K (bt x0 (IntKind.i64.wrap (x5 + 2)))) fun t2 =>
     zzQueryUnescape_j1 K k x0 x4 x5 (ltI 15 t2))))))))
  (br (eqI (bt x0 x5) 43)
   (chk (ltI ((List.length x4 : Int) + (List.length ([32] : List Int) : Int)) 1000000000000) (zzQueryUnescape_l0 K k x0 (x4 ++ ([32] : List Int)) (IntKind.i64.wrap (x5 + 1))))
   (chk (leI 0 x5) (chk (ltI x5 (ByteArray.size x0 : Int)) (chk (ltI ((List.length x4 : Int) + (List.length ([(bt x0 x5)] : List Int) : Int)) 1000000000000) (zzQueryUnescape_l0 K k x0 (x4 ++ ([(bt x0 x5)] : List Int)) (IntKind.i64.wrap (x5 + 1))))))))) := by kernel_rfl
theorem zzQueryUnescape_j1_eq (K k : Nat) (x0 : ByteArray) (x4 : List Int) (x5 : Int) (x43 : Bool) : zzQueryUnescape_j1 K (k + 1) x0 x4 x5 x43 =
  br x43
  (chk (leI 0 x5) (chk (leI x5 (ByteArray.size x0 : Int)) (chk (leI (ByteArray.size x0 : Int) (ByteArray.size x0 : Int)) (br (ltI 3 (ByteArray.size (ByteArray.extract x0 (Int.toNat x5) (Int.toNat (ByteArray.size x0 : Int))) : Int))
   (chk (leI 0 0) (chk (leI 0 3) (chk (leI 3 (ByteArray.size (ByteArray.extract x0 (Int.toNat x5) (Int.toNat (ByteArray.size x0 : Int))) : Int)) (zzQueryUnescape_j2 K k (ByteArray.extract (ByteArray.extract x0 (Int.toNat x5) (Int.toNat (ByteArray.size x0 : Int))) (Int.toNat 0) (Int.toNat 3))))))
   (zzQueryUnescape_j2 K k (ByteArray.extract x0 (Int.toNat x5) (Int.toNat (ByteArray.size x0 : Int))))))))
  (zzQueryUnescape_j3 K k x0 x4 x5) := by kernel_rfl
theorem zzQueryUnescape_j2_eq (K k : Nat) (x0 : ByteArray) : zzQueryUnescape_j2 K (k + 1) x0 =
  chk (nleI (ByteArray.size (⟨#[105, 110, 118, 97, 108, 105, 100, 32, 85, 82, 76, 32, 101, 115, 99, 97, 112, 101, 32, 34]⟩ : ByteArray) + ByteArray.size x0) 9223372036854775807) (chk (nleI (ByteArray.size (ByteArray.append (⟨#[105, 110, 118, 97, 108, 105, 100, 32, 85, 82, 76, 32, 101, 115, 99, 97, 112, 101, 32, 34]⟩ : ByteArray) x0) + ByteArray.size (⟨#[34]⟩ : ByteArray)) 9223372036854775807) (Option.bind (errors_New K (ByteArray.append (ByteArray.append (⟨#[105, 110, 118, 97, 108, 105, 100, 32, 85, 82, 76, 32, 101, 115, 99, 97, 112, 101, 32, 34]⟩ : ByteArray) x0) (⟨#[34]⟩ : ByteArray))) fun t3 =>
  some ((⟨#[]⟩ : ByteArray), t3))) := by kernel_rfl
theorem zzQueryUnescape_j3_eq (K k : Nat) (x0 : ByteArray) (x4 : List Int) (x5 : Int) : zzQueryUnescape_j3 K (k + 1) x0 x4 x5 =
  chk (leI 0 (IntKind.i64.wrap (x5 + 1))) (chk (ltI (IntKind.i64.wrap (x5 + 1)) (ByteArray.size x0 : Int)) (Option.bind (zzDigit K (bt x0 (IntKind.i64.wrap (x5 + 1)))) fun t4 =>
  chk (leI 0 4) (chk (leI 0 (IntKind.i64.wrap (x5 + 2))) (chk (ltI (IntKind.i64.wrap (x5 + 2)) (ByteArray.size x0 : Int)) (Option.bind (zzDigit K (bt x0 (IntKind.i64.wrap (x5 + 2)))) fun t5 =>
  chk (ltI ((List.length x4 : Int) + (List.length ([(IntKind.u8.wrap (BitVec.toNat (BitVec.ofInt (IntKind.u8).bits (IntKind.u8.wrap (t4 * 2 ^ min (Int.toNat 4) (IntKind.u8).bits)) ||| BitVec.ofInt (IntKind.u8).bits t5)))] : List Int) : Int)) 1000000000000) (zzQueryUnescape_l0 K k x0 (x4 ++ ([(IntKind.u8.wrap (BitVec.toNat (BitVec.ofInt (IntKind.u8).bits (IntKind.u8.wrap (t4 * 2 ^ min (Int.toNat 4) (IntKind.u8).bits)) ||| BitVec.ofInt (IntKind.u8).bits t5)))] : List Int)) (IntKind.i64.wrap ((IntKind.i64.wrap (x5 + 2)) + 1)))))))) := by kernel_rfl
theorem errors_New_eq (K : Nat) (x0 : ByteArray) : errors_New (K + 1) x0 =
  none := by kernel_rfl
theorem zzQueryEscape_eq (K : Nat) (x0 : ByteArray) : zzQueryEscape (K + 1) x0 =
  zzQueryEscape_l0 K K x0 [] 0 := by kernel_rfl
theorem zzQueryEscape_l0_eq (K k : Nat) (x0 : ByteArray) (x3 : List Int) (x4 : Int) : zzQueryEscape_l0 K (k + 1) x0 x3 x4 =
  br (ltI x4 (ByteArray.size x0 : Int))
  (zzQueryEscape_j0 K k x0 x3 x4)
  (some (strOfBytes x3)) := by kernel_rfl
theorem zzQueryEscape_j0_eq (K k : Nat) (x0 : ByteArray) (x3 : List Int) (x4 : Int) : zzQueryEscape_j0 K (k + 1) x0 x3 x4 =
  chk (leI 0 x4) (chk (ltI x4 (ByteArray.size x0 : Int)) (br (leI 97 (bt x0 x4))
  (br (leI (bt x0 x4) 122)
   (zzQueryEscape_j1 K k x0 x3 x4 (bt x0 x4) true)
   (br (leI 65 (bt x0 x4))
    (br (leI (bt x0 x4) 90)
     (zzQueryEscape_j1 K k x0 x3 x4 (bt x0 x4) true)
     (br (leI 48 (bt x0 x4))
      (br (leI (bt x0 x4) 57)
       (zzQueryEscape_j1 K k x0 x3 x4 (bt x0 x4) true)
       (br (eqI (bt x0 x4) 45)
        (zzQueryEscape_j1 K k x0 x3 x4 (bt x0 x4) true)
        (br (eqI (bt x0 x4) 95)
         (zzQueryEscape_j1 K k x0 x3 x4 (bt x0 x4) true)
         (br (eqI (bt x0 x4) 46)
          (zzQueryEscape_j1 K k x0 x3 x4 (bt x0 x4) true)
          (zzQueryEscape_j1 K k x0 x3 x4 (bt x0 x4) (eqI (bt x0 x4) 126))))))
      (br (eqI (bt x0 x4) 45)
       (zzQueryEscape_j1 K k x0 x3 x4 (bt x0 x4) true)
       (br (eqI (bt x0 x4) 95)
        (zzQueryEscape_j1 K k x0 x3 x4 (bt x0 x4) true)
        (br (eqI (bt x0 x4) 46)
         (zzQueryEscape_j1 K k x0 x3 x4 (bt x0 x4) true)
         (zzQueryEscape_j1 K k x0 x3 x4 (bt x0 x4) (eqI (bt x0 x4) 126)))))))
    (br (leI 48 (bt x0 x4))
     (br (leI (bt x0 x4) 57)
      (zzQueryEscape_j1 K k x0 x3 x4 (bt x0 x4) true)
      (br (eqI (bt x0 x4) 45)
       (zzQueryEscape_j1 K k x0 x3 x4 (bt x0 x4) true)
       (br (eqI (bt x0 x4) 95)
        (zzQueryEscape_j1 K k x0 x3 x4 (bt x0 x4) true)
        (br (eqI (bt x0 x4) 46)
         (zzQueryEscape_j1 K k x0 x3 x4 (bt x0 x4) true)
         (zzQueryEscape_j1 K k x0 x3 x4 (bt x0 x4) (eqI (bt x0 x4) 126))))))
     (br (eqI (bt x0 x4) 45)
      (zzQueryEscape_j1 K k x0 x3 x4 (bt x0 x4) true)
      (br (eqI (bt x0 x4) 95)
       (zzQueryEscape_j1 K k x0 x3 x4 (bt x0 x4) true)
       (br (eqI (bt x0 x4) 46)
        (zzQueryEscape_j1 K k x0 x3 x4 (bt x0 x4) true)
        (zzQueryEscape_j1 K k x0 x3 x4 (bt x0 x4) (eqI (bt x0 x4) 126))))))))
  (br (leI 65 (bt x0 x4))
   (br (leI (bt x0 x4) 90)
    (zzQueryEscape_j1 K k x0 x3 x4 (bt x0 x4) true)
    (br (leI 48 (bt x0 x4))
     (br (leI (bt x0 x4) 57)
      (zzQueryEscape_j1 K k x0 x3 x4 (bt x0 x4) true)
      (br (eqI (bt x0 x4) 45)
       (zzQueryEscape_j1 K k x0 x3 x4 (bt x0 x4) true)
       (br (eqI (bt x0 x4) 95)
        (zzQueryEscape_j1 K k x0 x3 x4 (bt x0 x4) true)
        (br (eqI (bt x0 x4) 46)
         (zzQueryEscape_j1 K k x0 x3 x4 (bt x0 x4) true)
         (zzQueryEscape_j1 K k x0 x3 x4 (bt x0 x4) (eqI (bt x0 x4) 126))))))
     (br (eqI (bt x0 x4) 45)
      (zzQueryEscape_j1 K k x0 x3 x4 (bt x0 x4) true)
      (br (eqI (bt x0 x4) 95)
       (zzQueryEscape_j1 K k x0 x3 x4 (bt x0 x4) true)
       (br (eqI (bt x0 x4) 46)
        (zzQueryEscape_j1 K k x0 x3 x4 (bt x0 x4) true)
        (zzQueryEscape_j1 K k x0 x3 x4 (bt x0 x4) (eqI (bt x0 x4) 126)))))))
   (br (leI 48 (bt x0 x4))
    (br (leI (bt x0 x4) 57)
     (zzQueryEscape_j1 K k x0 x3 x4 (bt x0 x4) true)
     (br (eqI (bt x0 x4) 45)
      (zzQueryEscape_j1 K k x0 x3 x4 (bt x0 x4) true)
      (br (eqI (bt x0 x4) 95)
       (zzQueryEscape_j1 K k x0 x3 x4 (bt x0 x4) true)
       (br (eqI (bt x0 x4) 46)
        (zzQueryEscape_j1 K k x0 x3 x4 (bt x0 x4) true)
        (zzQueryEscape_j1 K k x0 x3 x4 (bt x0 x4) (eqI (bt x0 x4) 126))))))
    (br (eqI (bt x0 x4) 45)
     (zzQueryEscape_j1 K k x0 x3 x4 (bt x0 x4) true)
     (br (eqI (bt x0 x4) 95)
      (zzQueryEscape_j1 K k x0 x3 x4 (bt x0 x4) true)
      (br (eqI (bt x0 x4) 46)
       (zzQueryEscape_j1 K k x0 x3 x4 (bt x0 x4) true)
       (zzQueryEscape_j1 K k x0 x3 x4 (bt x0 x4) (eqI (bt x0 x4) 126))))))))) := by kernel_rfl
theorem zzQueryEscape_j1_eq (K k : Nat) (x0 : ByteArray) (x3 : List Int) (x4 : Int) (x5 : Int) (x24 : Bool) : zzQueryEscape_j1 K (k + 1) x0 x3 x4 x5 x24 =
  br x24
  (chk (ltI ((List.length x3 : Int) + (List.length ([x5] : List Int) : Int)) 1000000000000) (zzQueryEscape_l0 K k x0 (x3 ++ ([x5] : List Int)) (IntKind.i64.wrap (x4 + 1))))
  (br (eqI x5 32)
   (chk (ltI ((List.length x3 : Int) + (List.length ([43] : List Int) : Int)) 1000000000000) (zzQueryEscape_l0 K k x0 (x3 ++ ([43] : List Int)) (IntKind.i64.wrap (x4 + 1))))
   (chk (leI 0 4) (chk (leI 0 (Int.fdiv x5 (2 ^ min (Int.toNat 4) (IntKind.u8).bits))) (chk (ltI (Int.fdiv x5 (2 ^ min (Int.toNat 4) (IntKind.u8).bits)) (ByteArray.size (⟨#[48, 49, 50, 51, 52, 53, 54, 55, 56, 57, 65, 66, 67, 68, 69, 70]⟩ : ByteArray) : Int)) (chk (leI 0 (IntKind.u8.wrap (BitVec.toNat (BitVec.ofInt (IntKind.u8).bits x5 &&& BitVec.ofInt (IntKind.u8).bits 15)))) (chk (ltI (IntKind.u8.wrap (BitVec.toNat (BitVec.ofInt (IntKind.u8).bits x5 &&& BitVec.ofInt (IntKind.u8).bits 15))) (ByteArray.size (⟨#[48, 49, 50, 51, 52, 53, 54, 55, 56, 57, 65, 66, 67, 68, 69, 70]⟩ : ByteArray) : Int)) (chk (ltI ((List.length x3 : Int) + (List.length ([37, (bt (⟨#[48, 49, 50, 51, 52, 53, 54, 55, 56, 57, 65, 66, 67, 68, 69, 70]⟩ : ByteArray) (Int.fdiv x5 (2 ^ min (Int.toNat 4) (IntKind.u8).bits))), (bt (⟨#[48, 49, 50, 51, 52, 53, 54, 55, 56, 57, 65, 66, 67, 68, 69, 70]⟩ : ByteArray) (IntKind.u8.wrap (BitVec.toNat (BitVec.ofInt (IntKind.u8).bits x5 &&& BitVec.ofInt (IntKind.u8).bits 15))))] : List Int) : Int)) 1000000000000) (zzQueryEscape_l0 K k x0 (x3 ++ ([37, (bt (⟨#[48, 49, 50, 51, 52, 53, 54, 55, 56, 57, 65, 66, 67, 68, 69, 70]⟩ : ByteArray) (Int.fdiv x5 (2 ^ min (Int.toNat 4) (IntKind.u8).bits))), (bt (⟨#[48, 49, 50, 51, 52, 53, 54, 55, 56, 57, 65, 66, 67, 68, 69, 70]⟩ : ByteArray) (IntKind.u8.wrap (BitVec.toNat (BitVec.ofInt (IntKind.u8).bits x5 &&& BitVec.ofInt (IntKind.u8).bits 15))))] : List Int)) (IntKind.i64.wrap (x4 + 1)))))))))) := by kernel_rfl
theorem zzUnescape_eq (K : Nat) (x0 : ByteArray) : zzUnescape (K + 1) x0 =
  zzUnescape_l0 K K x0 [] 0 := by kernel_rfl
theorem zzUnescape_l0_eq (K k : Nat) (x0 : ByteArray) (x3 : List Int) (x4 : Int) : zzUnescape_l0 K (k + 1) x0 x3 x4 =
  br (ltI x4 (ByteArray.size x0 : Int))
  (zzUnescape_j0 K k x0 x3 x4)
  (some (strOfBytes x3)) := by kernel_rfl
theorem zzUnescape_j0_eq (K k : Nat) (x0 : ByteArray) (x3 : List Int) (x4 : Int) : zzUnescape_j0 K (k + 1) x0 x3 x4 =
  chk (leI 0 x4) (chk (ltI x4 (ByteArray.size x0 : Int)) (br (eqI (bt x0 x4) 37)
  (zzUnescape_j1 K k x0 x3 x4 (ltI (IntKind.i64.wrap (x4 + 2)) (ByteArray.size x0 : Int)))
  (zzUnescape_j1 K k x0 x3 x4 false))) := by kernel_rfl
theorem zzUnescape_j1_eq (K k : Nat) (x0 : ByteArray) (x3 : List Int) (x4 : Int) (x22 : Bool) : zzUnescape_j1 K (k + 1) x0 x3 x4 x22 =
  br x22
  (chk (leI 0 (IntKind.i64.wrap (x4 + 1))) (chk (leI (IntKind.i64.wrap (x4 + 1)) (IntKind.i64.wrap (x4 + 3))) (chk (leI (IntKind.i64.wrap (x4 + 3)) (ByteArray.size x0 : Int)) (Option.bind (zzUnescaped K (ByteArray.extract x0 (Int.toNat (IntKind.i64.wrap (x4 + 1))) (Int.toNat (IntKind.i64.wrap (x4 + 3))))) fun t1 =>
   br (!eqI t1 0)
   (chk (ltI ((List.length x3 : Int) + (List.length ([t1] : List Int) : Int)) 1000000000000) (zzUnescape_l0 K k x0 (x3 ++ ([t1] : List Int)) (IntKind.i64.wrap ((IntKind.i64.wrap (x4 + 2)) + 1))))
   (zzUnescape_j2 K k x0 x3 x4)))))
  (zzUnescape_j2 K k x0 x3 x4) := by kernel_rfl
theorem zzUnescape_j2_eq (K k : Nat) (x0 : ByteArray) (x3 : List Int) (x4 : Int) : zzUnescape_j2 K (k + 1) x0 x3 x4 =
  chk (leI 0 x4) (chk (ltI x4 (ByteArray.size x0 : Int)) (chk (ltI ((List.length x3 : Int) + (List.length ([(bt x0 x4)] : List Int) : Int)) 1000000000000) (zzUnescape_l0 K k x0 (x3 ++ ([(bt x0 x4)] : List Int)) (IntKind.i64.wrap (x4 + 1))))) := by kernel_rfl
theorem deltaHex_eq (K : Nat) (x0 : Int) : deltaHex (K + 1) x0 =
  br (leI 48 x0)
  (deltaHex_j0 K K x0 (leI x0 57))
  (deltaHex_j0 K K x0 false) := by kernel_rfl
theorem deltaHex_j0_eq (K k : Nat) (x0 : Int) (x3 : Bool) : deltaHex_j0 K (k + 1) x0 x3 =
  br x3
  (some (IntKind.i64.wrap (IntKind.u8.wrap (x0 - 48))))
  (br (leI 97 x0)
   (deltaHex_j1 K k x0 (leI x0 102))
   (deltaHex_j1 K k x0 false)) := by kernel_rfl
theorem deltaHex_j1_eq (K k : Nat) (x0 : Int) (x13 : Bool) : deltaHex_j1 K (k + 1) x0 x13 =
  br x13
  (some (IntKind.i64.wrap ((IntKind.i64.wrap (IntKind.u8.wrap (x0 - 97))) + 10)))
  (br (leI 65 x0)
   (deltaHex_j2 K k x0 (leI x0 70))
   (deltaHex_j2 K k x0 false)) := by kernel_rfl
theorem deltaHex_j2_eq (K k : Nat) (x0 : Int) (x24 : Bool) : deltaHex_j2 K (k + 1) x0 x24 =
  br x24
  (some (IntKind.i64.wrap ((IntKind.i64.wrap (IntKind.u8.wrap (x0 - 65))) + 10)))
  (some (-1)) := by kernel_rfl
theorem deltaPlain_eq (K : Nat) (x0 : Int) : deltaPlain (K + 1) x0 =
  br (leI 97 x0)
  (br (leI x0 122)
   (deltaPlain_j0 K K x0 true)
   (br (leI 65 x0)
    (br (leI x0 90)
     (deltaPlain_j0 K K x0 true)
     (br (leI 48 x0)
      (deltaPlain_j0 K K x0 (leI x0 57))
      (deltaPlain_j0 K K x0 false)))
    (br (leI 48 x0)
     (deltaPlain_j0 K K x0 (leI x0 57))
     (deltaPlain_j0 K K x0 false))))
  (br (leI 65 x0)
   (br (leI x0 90)
    (deltaPlain_j0 K K x0 true)
    (br (leI 48 x0)
     (deltaPlain_j0 K K x0 (leI x0 57))
     (deltaPlain_j0 K K x0 false)))
   (br (leI 48 x0)
    (deltaPlain_j0 K K x0 (leI x0 57))
    (deltaPlain_j0 K K x0 false))) := by kernel_rfl
theorem deltaPlain_j0_eq (K k : Nat) (x0 : Int) (x26 : Bool) : deltaPlain_j0 K (k + 1) x0 x26 =
  br x26
  (some true)
  (deltaPlain_j1 K k x0) := by kernel_rfl
theorem deltaPlain_j1_eq (K k : Nat) (x0 : Int) : deltaPlain_j1 K (k + 1) x0 =
  deltaPlain_l0 K k x0 ([45, 95, 46, 126, 33, 39, 40, 41, 59, 47, 63, 58, 64, 38, 61, 43, 36, 44, 35, 42, 32] : List Int) (List.length ([45, 95, 46, 126, 33, 39, 40, 41, 59, 47, 63, 58, 64, 38, 61, 43, 36, 44, 35, 42, 32] : List Int) : Int) 0 := by kernel_rfl
theorem deltaPlain_l0_eq (K k : Nat) (x0 : Int) (x28 : List Int) (x29 : Int) (x30 : Int) : deltaPlain_l0 K (k + 1) x0 x28 x29 x30 =
  br (ltI x30 x29)
  (deltaPlain_j2 K k x0 x28 x29 x30)
  (some false) := by kernel_rfl
theorem deltaPlain_j2_eq (K k : Nat) (x0 : Int) (x28 : List Int) (x29 : Int) (x30 : Int) : deltaPlain_j2 K (k + 1) x0 x28 x29 x30 =
  chk (leI 0 x30) (chk (ltI x30 (List.length x28 : Int)) (br (eqI (nth (.int .u8) x28 x30) x0)
  (some true)
  (deltaPlain_l0 K k x0 x28 x29 (IntKind.i64.wrap (x30 + 1))))) := by kernel_rfl
theorem zzEscapeHTML_eq (K : Nat) (x0 : ByteArray) : zzEscapeHTML (K + 1) x0 =
  zzEscapeHTML_l0 K K x0 [] 0 := by kernel_rfl
theorem zzEscapeHTML_l0_eq (K k : Nat) (x0 : ByteArray) (x3 : List Int) (x4 : Int) : zzEscapeHTML_l0 K (k + 1) x0 x3 x4 =
  br (ltI x4 (ByteArray.size x0 : Int))
  (zzEscapeHTML_j0 K k x0 x3 x4)
  (some (strOfBytes x3)) := by kernel_rfl
theorem zzEscapeHTML_j0_eq (K k : Nat) (x0 : ByteArray) (x3 : List Int) (x4 : Int) : zzEscapeHTML_j0 K (k + 1) x0 x3 x4 =
  chk (leI 0 x4) (chk (ltI x4 (ByteArray.size x0 : Int)) (br (eqI (bt x0 x4) 38)
  (chk (ltI ((List.length x3 : Int) + (List.length (bytesI (⟨#[38, 97, 109, 112, 59]⟩ : ByteArray)) : Int)) 1000000000000) (zzEscapeHTML_l0 K k x0 (x3 ++ (bytesI (⟨#[38, 97, 109, 112, 59]⟩ : ByteArray))) (IntKind.i64.wrap (x4 + 1))))
  (br (eqI (bt x0 x4) 39)
   (chk (ltI ((List.length x3 : Int) + (List.length (bytesI (⟨#[38, 35, 51, 57, 59]⟩ : ByteArray)) : Int)) 1000000000000) (zzEscapeHTML_l0 K k x0 (x3 ++ (bytesI (⟨#[38, 35, 51, 57, 59]⟩ : ByteArray))) (IntKind.i64.wrap (x4 + 1))))
   (br (eqI (bt x0 x4) 60)
    (chk (ltI ((List.length x3 : Int) + (List.length (bytesI (⟨#[38, 108, 116, 59]⟩ : ByteArray)) : Int)) 1000000000000) (zzEscapeHTML_l0 K k x0 (x3 ++ (bytesI (⟨#[38, 108, 116, 59]⟩ : ByteArray))) (IntKind.i64.wrap (x4 + 1))))
    (br (eqI (bt x0 x4) 62)
     (chk (ltI ((List.length x3 : Int) + (List.length (bytesI (⟨#[38, 103, 116, 59]⟩ : ByteArray)) : Int)) 1000000000000) (zzEscapeHTML_l0 K k x0 (x3 ++ (bytesI (⟨#[38, 103, 116, 59]⟩ : ByteArray))) (IntKind.i64.wrap (x4 + 1))))
     (br (eqI (bt x0 x4) 34)
      (chk (ltI ((List.length x3 : Int) + (List.length (bytesI (⟨#[38, 35, 51, 52, 59]⟩ : ByteArray)) : Int)) 1000000000000) (zzEscapeHTML_l0 K k x0 (x3 ++ (bytesI (⟨#[38, 35, 51, 52, 59]⟩ : ByteArray))) (IntKind.i64.wrap (x4 + 1))))
      (chk (leI 0 x4) (chk (ltI x4 (ByteArray.size x0 : Int)) (chk (ltI ((List.length x3 : Int) + (List.length ([(bt x0 x4)] : List Int) : Int)) 1000000000000) (zzEscapeHTML_l0 K k x0 (x3 ++ ([(bt x0 x4)] : List Int)) (IntKind.i64.wrap (x4 + 1)))))))))))) := by kernel_rfl
theorem zzIndex_eq (K : Nat) (x0 : ByteArray) (x1 : ByteArray) : zzIndex (K + 1) x0 x1 =
  zzIndex_l0 K K x0 x1 0 := by kernel_rfl
theorem zzIndex_l0_eq (K k : Nat) (x0 : ByteArray) (x1 : ByteArray) (x5 : Int) : zzIndex_l0 K (k + 1) x0 x1 x5 =
  br (leI (IntKind.i64.wrap (x5 + (ByteArray.size x1 : Int))) (ByteArray.size x0 : Int))
  (zzIndex_j0 K k x0 x1 x5)
  (some (-1)) := by kernel_rfl
theorem zzIndex_j0_eq (K k : Nat) (x0 : ByteArray) (x1 : ByteArray) (x5 : Int) : zzIndex_j0 K (k + 1) x0 x1 x5 =
  chk (leI 0 x5) (chk (leI x5 (IntKind.i64.wrap (x5 + (ByteArray.size x1 : Int)))) (chk (leI (IntKind.i64.wrap (x5 + (ByteArray.size x1 : Int))) (ByteArray.size x0 : Int)) (br (eqS (ByteArray.extract x0 (Int.toNat x5) (Int.toNat (IntKind.i64.wrap (x5 + (ByteArray.size x1 : Int))))) x1)
  (some x5)
  (zzIndex_l0 K k x0 x1 (IntKind.i64.wrap (x5 + 1)))))) := by kernel_rfl
theorem zzDigit_eq (K : Nat) (x0 : Int) : zzDigit (K + 1) x0 =
  br (leI 48 x0)
  (zzDigit_j0 K K x0 (leI x0 57))
  (zzDigit_j0 K K x0 false) := by kernel_rfl
theorem zzDigit_j0_eq (K k : Nat) (x0 : Int) (x3 : Bool) : zzDigit_j0 K (k + 1) x0 x3 =
  br x3
  (some (IntKind.u8.wrap (x0 - 48)))
  (br (leI 97 x0)
   (zzDigit_j1 K k x0 (leI x0 102))
   (zzDigit_j1 K k x0 false)) := by kernel_rfl
theorem zzDigit_j1_eq (K k : Nat) (x0 : Int) (x12 : Bool) : zzDigit_j1 K (k + 1) x0 x12 =
  br x12
  (some (IntKind.u8.wrap ((IntKind.u8.wrap (x0 - 97)) + 10)))
  (br (leI 65 x0)
   (zzDigit_j2 K k x0 (leI x0 70))
   (zzDigit_j2 K k x0 false)) := by kernel_rfl
theorem zzDigit_j2_eq (K k : Nat) (x0 : Int) (x22 : Bool) : zzDigit_j2 K (k + 1) x0 x22 =
  br x22
  (some (IntKind.u8.wrap ((IntKind.u8.wrap (x0 - 65)) + 10)))
  (some 16) := by kernel_rfl
theorem zzUnescaped_eq (K : Nat) (x0 : ByteArray) : zzUnescaped (K + 1) x0 =
  br (eqS x0 (⟨#[50, 49]⟩ : ByteArray))
  (some 33)
  (br (eqS x0 (⟨#[55, 69]⟩ : ByteArray))
   (some 126)
   (br (eqS x0 (⟨#[50, 55]⟩ : ByteArray))
    (some 39)
    (br (eqS x0 (⟨#[50, 56]⟩ : ByteArray))
     (some 40)
     (br (eqS x0 (⟨#[50, 57]⟩ : ByteArray))
      (some 41)
      (br (eqS x0 (⟨#[51, 66]⟩ : ByteArray))
       (some 59)
       (br (eqS x0 (⟨#[50, 70]⟩ : ByteArray))
        (some 47)
        (br (eqS x0 (⟨#[51, 70]⟩ : ByteArray))
         (some 63)
         (br (eqS x0 (⟨#[51, 65]⟩ : ByteArray))
          (some 58)
          (br (eqS x0 (⟨#[52, 48]⟩ : ByteArray))
           (some 64)
           (br (eqS x0 (⟨#[50, 54]⟩ : ByteArray))
            (some 38)
            (br (eqS x0 (⟨#[51, 68]⟩ : ByteArray))
             (some 61)
             (br (eqS x0 (⟨#[50, 66]⟩ : ByteArray))
              (some 43)
              (br (eqS x0 (⟨#[50, 52]⟩ : ByteArray))
               (some 36)
               (br (eqS x0 (⟨#[50, 67]⟩ : ByteArray))
                (some 44)
                (br (eqS x0 (⟨#[50, 51]⟩ : ByteArray))
                 (some 35)
                 (br (eqS x0 (⟨#[50, 65]⟩ : ByteArray))
                  (some 42)
                  (some 0))))))))))))))))) := by kernel_rfl
end Go.Proofs.YtfefjbifdbfmjaaDoor.E
