import Derived.Test.YtaabfadjemmibaaDoorEvT
/- Written by a program of this session (wip/tools/mkev.py): what the functions' places evaluate to. Not trusted: Lean checks it. -/
namespace Go.Proofs.YtaabfadjemmibaaDoor.E
open Go.Ev
theorem FnLosslessWord_eq (K : Nat) (x0 : ByteArray) (x1 : ByteArray) (x2 : ByteArray) (x3 : Bool) : FnLosslessWord (K + 1) x0 x1 x2 x3 =
  br (ltI 2147483647 (ByteArray.size x0 : Int))
  (FnLosslessWord_j0 K K x0 x1 x2 x3 true)
  (br (ltI 2147483647 (ByteArray.size x1 : Int))
   (FnLosslessWord_j0 K K x0 x1 x2 x3 true)
   (FnLosslessWord_j0 K K x0 x1 x2 x3 (ltI 2147483647 (ByteArray.size x2 : Int)))) := by kernel_rfl
theorem FnLosslessWord_j0_eq (K k : Nat) (x0 : ByteArray) (x1 : ByteArray) (x2 : ByteArray) (x3 : Bool) (x26 : Bool) : FnLosslessWord_j0 K (k + 1) x0 x1 x2 x3 x26 =
  br x26
  (some true)
  (FnLosslessWord_j1 K k x0 x1 x2 x3) := by kernel_rfl
theorem FnLosslessWord_j1_eq (K k : Nat) (x0 : ByteArray) (x1 : ByteArray) (x2 : ByteArray) (x3 : Bool) : FnLosslessWord_j1 K (k + 1) x0 x1 x2 x3 =
  FnLosslessWord_l0 K k x0 x1 x2 x3 [x0, x1, x2] (List.length [x0, x1, x2] : Int) 0 := by kernel_rfl
theorem FnLosslessWord_l0_eq (K k : Nat) (x0 : ByteArray) (x1 : ByteArray) (x2 : ByteArray) (x3 : Bool) (x30 : List ByteArray) (x31 : Int) (x32 : Int) : FnLosslessWord_l0 K (k + 1) x0 x1 x2 x3 x30 x31 x32 =
  br (ltI x32 x31)
  (FnLosslessWord_j2 K k x0 x1 x2 x3 x30 x31 x32)
  (FnLosslessWord_j3 K k x0 x1 x2 x3) := by kernel_rfl
theorem FnLosslessWord_j2_eq (K k : Nat) (x0 : ByteArray) (x1 : ByteArray) (x2 : ByteArray) (x3 : Bool) (x30 : List ByteArray) (x31 : Int) (x32 : Int) : FnLosslessWord_j2 K (k + 1) x0 x1 x2 x3 x30 x31 x32 =
  chk (leI 0 x32) (chk (ltI x32 (List.length x30 : Int)) (Option.bind (cleanWord K (nth .str x30 x32)) fun t1 =>
  br (!t1)
  (Option.bind (cleanAwake K) fun t2 =>
   some t2)
  (FnLosslessWord_l0 K k x0 x1 x2 x3 x30 x31 (IntKind.i64.wrap (x32 + 1))))) := by kernel_rfl
theorem FnLosslessWord_j3_eq (K k : Nat) (x0 : ByteArray) (x1 : ByteArray) (x2 : ByteArray) (x3 : Bool) : FnLosslessWord_j3 K (k + 1) x0 x1 x2 x3 =
  chk (leI 0 (IntKind.i64.wrap ((ByteArray.size x0 : Int) - 1))) (chk (ltI (IntKind.i64.wrap ((ByteArray.size x0 : Int) - 1)) (ByteArray.size x0 : Int)) (chk (leI 0 (IntKind.i64.wrap ((ByteArray.size x1 : Int) - 1))) (chk (ltI (IntKind.i64.wrap ((ByteArray.size x1 : Int) - 1)) (ByteArray.size x1 : Int)) (br (eqI (bt x0 (IntKind.i64.wrap ((ByteArray.size x0 : Int) - 1))) (bt x1 (IntKind.i64.wrap ((ByteArray.size x1 : Int) - 1))))
  (FnLosslessWord_j4 K k x0 x1 x2 x3 true)
  (chk (leI 0 0) (chk (ltI 0 (ByteArray.size x1 : Int)) (chk (leI 0 0) (chk (ltI 0 (ByteArray.size x2 : Int)) (FnLosslessWord_j4 K k x0 x1 x2 x3 (eqI (bt x1 0) (bt x2 0))))))))))) := by kernel_rfl
theorem FnLosslessWord_j4_eq (K k : Nat) (x0 : ByteArray) (x1 : ByteArray) (x2 : ByteArray) (x3 : Bool) (x58 : Bool) : FnLosslessWord_j4 K (k + 1) x0 x1 x2 x3 x58 =
  br x58
  (Option.bind (cleanAwake K) fun t3 =>
   some t3)
  (FnLosslessWord_j5 K k x0 x1 x2 x3) := by kernel_rfl
theorem FnLosslessWord_j5_eq (K k : Nat) (x0 : ByteArray) (x1 : ByteArray) (x2 : ByteArray) (x3 : Bool) : FnLosslessWord_j5 K (k + 1) x0 x1 x2 x3 =
  br x3
  (FnLosslessWord_j6 K k x0 x1 x2 1)
  (FnLosslessWord_j6 K k x0 x1 x2 (-1)) := by kernel_rfl
theorem FnLosslessWord_j6_eq (K k : Nat) (x0 : ByteArray) (x1 : ByteArray) (x2 : ByteArray) (x11 : Int) : FnLosslessWord_j6 K (k + 1) x0 x1 x2 x11 =
  chk (nleI (ByteArray.size (⟨#[32]⟩ : ByteArray) + ByteArray.size x1) 9223372036854775807) (chk (nleI (ByteArray.size (⟨#[32]⟩ : ByteArray) + ByteArray.size x2) 9223372036854775807) (Option.bind (CleanLossless K [(0, x0), (x11, (ByteArray.append (⟨#[32]⟩ : ByteArray) x1)), (0, (ByteArray.append (⟨#[32]⟩ : ByteArray) x2))]) fun t4 =>
  chk (nleI (ByteArray.size x0 + ByteArray.size (⟨#[32]⟩ : ByteArray)) 9223372036854775807) (chk (nleI (ByteArray.size x1 + ByteArray.size (⟨#[32]⟩ : ByteArray)) 9223372036854775807) (Option.bind (CleanLossless K [(0, (ByteArray.append x0 (⟨#[32]⟩ : ByteArray))), (x11, (ByteArray.append x1 (⟨#[32]⟩ : ByteArray))), (0, x2)]) fun t5 =>
  Option.bind (cleanAwake K) fun t6 =>
  br t6
  (Option.bind (cleanOf K t4) fun t7 =>
   Option.bind (cleanOf K t5) fun t8 =>
   Option.bind (CleanSame K t7 t8) fun t9 =>
   some t9)
  (some false))))) := by kernel_rfl
theorem FnMergeAgain_eq (K : Nat) (x0 : List TS0.den) : FnMergeAgain (K + 1) x0 =
  Option.bind (zzFits3 K x0) fun t1 =>
  br (!t1)
  (some true)
  (FnMergeAgain_j0 K K x0) := by kernel_rfl
theorem FnMergeAgain_j0_eq (K k : Nat) (x0 : List TS0.den) : FnMergeAgain_j0 K (k + 1) x0 =
  Option.bind (cleanFew K x0) fun t2 =>
  br (!t2)
  (Option.bind (cleanAwake K) fun t3 =>
   some t3)
  (FnMergeAgain_j1 K k x0) := by kernel_rfl
theorem FnMergeAgain_j1_eq (K k : Nat) (x0 : List TS0.den) : FnMergeAgain_j1 K (k + 1) x0 =
  Option.bind (cleanOwn K x0) fun t4 =>
  Option.bind (CleanMerge K t4) fun t5 =>
  Option.bind (cleanOwn K t5) fun t6 =>
  Option.bind (CleanMerge K t6) fun t7 =>
  Option.bind (cleanAwake K) fun t8 =>
  br t8
  (Option.bind (cleanOf K t5) fun t9 =>
   Option.bind (cleanOf K t7) fun t10 =>
   Option.bind (CleanSame K t9 t10) fun t11 =>
   some t11)
  (some false) := by kernel_rfl
theorem FnMergeKeeps_eq (K : Nat) (x0 : List TS0.den) : FnMergeKeeps (K + 1) x0 =
  Option.bind (zzFits3 K x0) fun t1 =>
  br (!t1)
  (some true)
  (FnMergeKeeps_j0 K K x0) := by kernel_rfl
theorem FnMergeKeeps_j0_eq (K k : Nat) (x0 : List TS0.den) : FnMergeKeeps_j0 K (k + 1) x0 =
  Option.bind (cleanFew K x0) fun t2 =>
  br (!t2)
  (Option.bind (cleanAwake K) fun t3 =>
   some t3)
  (FnMergeKeeps_j1 K k x0) := by kernel_rfl
theorem FnMergeKeeps_j1_eq (K k : Nat) (x0 : List TS0.den) : FnMergeKeeps_j1 K (k + 1) x0 =
  Option.bind (cleanAwake K) fun t4 =>
  br t4
  (Option.bind (cleanOf K x0) fun t5 =>
   Option.bind (cleanOwn K x0) fun t6 =>
   Option.bind (CleanMerge K t6) fun t7 =>
   Option.bind (cleanOf K t7) fun t8 =>
   Option.bind (CleanKept K t5 t8) fun t9 =>
   some t9)
  (some false) := by kernel_rfl
theorem FnMergeLess_eq (K : Nat) (x0 : List TS0.den) : FnMergeLess (K + 1) x0 =
  Option.bind (zzFits3 K x0) fun t1 =>
  br (!t1)
  (some true)
  (FnMergeLess_j0 K K x0) := by kernel_rfl
theorem FnMergeLess_j0_eq (K k : Nat) (x0 : List TS0.den) : FnMergeLess_j0 K (k + 1) x0 =
  Option.bind (cleanFew K x0) fun t2 =>
  br (!t2)
  (Option.bind (cleanAwake K) fun t3 =>
   some t3)
  (FnMergeLess_j1 K k x0) := by kernel_rfl
theorem FnMergeLess_j1_eq (K k : Nat) (x0 : List TS0.den) : FnMergeLess_j1 K (k + 1) x0 =
  Option.bind (cleanOf K x0) fun t4 =>
  Option.bind (CleanEdits K t4) fun t5 =>
  Option.bind (cleanOwn K x0) fun t6 =>
  Option.bind (CleanMerge K t6) fun t7 =>
  Option.bind (cleanOf K t7) fun t8 =>
  Option.bind (CleanEdits K t8) fun t9 =>
  Option.bind (cleanAwake K) fun t10 =>
  br t10
  (some (leI t9.2 t5.2))
  (some false) := by kernel_rfl
theorem FnMergeOrder_eq (K : Nat) (x0 : List TS0.den) : FnMergeOrder (K + 1) x0 =
  Option.bind (zzFits3 K x0) fun t1 =>
  br (!t1)
  (some true)
  (FnMergeOrder_j0 K K x0) := by kernel_rfl
theorem FnMergeOrder_j0_eq (K k : Nat) (x0 : List TS0.den) : FnMergeOrder_j0 K (k + 1) x0 =
  Option.bind (cleanFew K x0) fun t2 =>
  br (!t2)
  (Option.bind (cleanAwake K) fun t3 =>
   some t3)
  (FnMergeOrder_j1 K k x0) := by kernel_rfl
theorem FnMergeOrder_j1_eq (K k : Nat) (x0 : List TS0.den) : FnMergeOrder_j1 K (k + 1) x0 =
  FnMergeOrder_l0 K k x0 [] 0 := by kernel_rfl
theorem FnMergeOrder_l0_eq (K k : Nat) (x0 : List TS0.den) (x3 : List TS0.den) (x4 : Int) : FnMergeOrder_l0 K (k + 1) x0 x3 x4 =
  br (ltI x4 (List.length x0 : Int))
  (FnMergeOrder_j2 K k x0 x3 x4)
  (FnMergeOrder_j3 K k x0 x3) := by kernel_rfl
theorem FnMergeOrder_j2_eq (K k : Nat) (x0 : List TS0.den) (x3 : List TS0.den) (x4 : Int) : FnMergeOrder_j2 K (k + 1) x0 x3 x4 =
  FnMergeOrder_l1 K k x0 x3 x4 x4 := by kernel_rfl
theorem FnMergeOrder_j3_eq (K k : Nat) (x0 : List TS0.den) (x3 : List TS0.den) : FnMergeOrder_j3 K (k + 1) x0 x3 =
  Option.bind (cleanAwake K) fun t4 =>
  br t4
  (Option.bind (cleanOwn K x0) fun t5 =>
   Option.bind (CleanMerge K t5) fun t6 =>
   Option.bind (cleanOf K t6) fun t7 =>
   Option.bind (CleanMerge K x3) fun t8 =>
   Option.bind (cleanOf K t8) fun t9 =>
   Option.bind (CleanSame K t7 t9) fun t10 =>
   some t10)
  (some false) := by kernel_rfl
theorem FnMergeOrder_l1_eq (K k : Nat) (x0 : List TS0.den) (x3 : List TS0.den) (x4 : Int) (x5 : Int) : FnMergeOrder_l1 K (k + 1) x0 x3 x4 x5 =
  br (ltI x5 (List.length x0 : Int))
  (chk (leI 0 x5) (chk (ltI x5 (List.length x0 : Int)) (br (!eqI ((nth TS0 x0 x5).1) 0)
   (FnMergeOrder_j4 K k x0 x3 x4 x5)
   (FnMergeOrder_j5 K k x0 x3 x4 x5))))
  (FnMergeOrder_j5 K k x0 x3 x4 x5) := by kernel_rfl
theorem FnMergeOrder_j4_eq (K k : Nat) (x0 : List TS0.den) (x3 : List TS0.den) (x4 : Int) (x5 : Int) : FnMergeOrder_j4 K (k + 1) x0 x3 x4 x5 =
  FnMergeOrder_l1 K k x0 x3 x4 (IntKind.i64.wrap (x5 + 1)) := by kernel_rfl
theorem FnMergeOrder_j5_eq (K k : Nat) (x0 : List TS0.den) (x3 : List TS0.den) (x4 : Int) (x5 : Int) : FnMergeOrder_j5 K (k + 1) x0 x3 x4 x5 =
  FnMergeOrder_l2 K k x0 x3 x4 x5 [1, (-1)] (List.length [1, (-1)] : Int) 0 := by kernel_rfl
theorem FnMergeOrder_l2_eq (K k : Nat) (x0 : List TS0.den) (x3 : List TS0.den) (x4 : Int) (x5 : Int) (x36 : List Int) (x37 : Int) (x38 : Int) : FnMergeOrder_l2 K (k + 1) x0 x3 x4 x5 x36 x37 x38 =
  br (ltI x38 x37)
  (FnMergeOrder_j6 K k x0 x3 x4 x5 x36 x37 x38)
  (FnMergeOrder_j7 K k x0 x3 x5) := by kernel_rfl
theorem FnMergeOrder_j6_eq (K k : Nat) (x0 : List TS0.den) (x3 : List TS0.den) (x4 : Int) (x5 : Int) (x36 : List Int) (x37 : Int) (x38 : Int) : FnMergeOrder_j6 K (k + 1) x0 x3 x4 x5 x36 x37 x38 =
  chk (leI 0 x38) (chk (ltI x38 (List.length x36 : Int)) (chk (leI 0 x4) (chk (leI x4 x5) (chk (leI x5 (List.length x0 : Int)) (FnMergeOrder_l3 K k x0 x3 x4 x5 (nth (.int .i64) x36 x38) x36 x37 x38 x4 x5 (x5 - x4) 0))))) := by kernel_rfl
theorem FnMergeOrder_j7_eq (K k : Nat) (x0 : List TS0.den) (x3 : List TS0.den) (x5 : Int) : FnMergeOrder_j7 K (k + 1) x0 x3 x5 =
  br (ltI x5 (List.length x0 : Int))
  (chk (leI 0 x5) (chk (ltI x5 (List.length x0 : Int)) (chk (ltI ((List.length x3 : Int) + (List.length [(nth TS0 x0 x5)] : Int)) 1000000000000) (FnMergeOrder_l0 K k x0 (x3 ++ [(nth TS0 x0 x5)]) (IntKind.i64.wrap (x5 + 1))))))
  (FnMergeOrder_l0 K k x0 x3 (IntKind.i64.wrap (x5 + 1))) := by kernel_rfl
theorem FnMergeOrder_l3_eq (K k : Nat) (x0 : List TS0.den) (x3 : List TS0.den) (x4 : Int) (x5 : Int) (x7 : Int) (x36 : List Int) (x37 : Int) (x38 : Int) (a45 : Int) (b45 : Int) (x46 : Int) (x47 : Int) : FnMergeOrder_l3 K (k + 1) x0 x3 x4 x5 x7 x36 x37 x38 a45 b45 x46 x47 =
  br (ltI x47 x46)
  (FnMergeOrder_j8 K k x0 x3 x4 x5 x7 x36 x37 x38 a45 b45 x46 x47)
  (FnMergeOrder_l2 K k x0 x3 x4 x5 x36 x37 (IntKind.i64.wrap (x38 + 1))) := by kernel_rfl
theorem FnMergeOrder_j8_eq (K k : Nat) (x0 : List TS0.den) (x3 : List TS0.den) (x4 : Int) (x5 : Int) (x7 : Int) (x36 : List Int) (x37 : Int) (x38 : Int) (a45 : Int) (b45 : Int) (x46 : Int) (x47 : Int) : FnMergeOrder_j8 K (k + 1) x0 x3 x4 x5 x7 x36 x37 x38 a45 b45 x46 x47 =
  chk (leI 0 x47) (chk (ltI x47 (b45 - a45)) (br (eqI ((nth TS0 x0 (a45 + x47)).1) x7)
  (chk (ltI ((List.length x3 : Int) + (List.length [(nth TS0 x0 (a45 + x47))] : Int)) 1000000000000) (FnMergeOrder_l3 K k x0 (x3 ++ [(nth TS0 x0 (a45 + x47))]) x4 x5 x7 x36 x37 x38 a45 b45 x46 (IntKind.i64.wrap (x47 + 1))))
  (FnMergeOrder_l3 K k x0 x3 x4 x5 x7 x36 x37 x38 a45 b45 x46 (IntKind.i64.wrap (x47 + 1))))) := by kernel_rfl
theorem zzFits3_eq (K : Nat) (x0 : List TS0.den) : zzFits3 (K + 1) x0 =
  br (ltI 2147483647 (List.length x0 : Int))
  (some false)
  (zzFits3_j0 K K x0) := by kernel_rfl
theorem zzFits3_j0_eq (K k : Nat) (x0 : List TS0.den) : zzFits3_j0 K (k + 1) x0 =
  zzFits3_l0 K k x0 (List.length x0 : Int) 0 := by kernel_rfl
theorem zzFits3_l0_eq (K k : Nat) (x8 : List TS0.den) (x9 : Int) (x10 : Int) : zzFits3_l0 K (k + 1) x8 x9 x10 =
  br (ltI x10 x9)
  (zzFits3_j1 K k x8 x9 x10)
  (some true) := by kernel_rfl
theorem zzFits3_j1_eq (K k : Nat) (x8 : List TS0.den) (x9 : Int) (x10 : Int) : zzFits3_j1 K (k + 1) x8 x9 x10 =
  chk (leI 0 x10) (chk (ltI x10 (List.length x8 : Int)) (Option.bind (zzFits4 K (nth TS0 x8 x10)) fun t1 =>
  br (!t1)
  (some false)
  (zzFits3_l0 K k x8 x9 (IntKind.i64.wrap (x10 + 1))))) := by kernel_rfl
theorem cleanAwake_eq (K : Nat) : cleanAwake (K + 1) =
  Option.bind (CleanLossless K [(0, (⟨#[84, 104, 101, 32, 99]⟩ : ByteArray)), (1, (⟨#[97, 116, 32, 99]⟩ : ByteArray)), (0, (⟨#[97, 109, 101, 46]⟩ : ByteArray))]) fun t1 =>
  br (eqI (List.length t1 : Int) 3)
  (chk (leI 0 0) (chk (ltI 0 (List.length t1 : Int)) (br (eqS ((nth TS0 t1 0).2) (⟨#[84, 104, 101, 32]⟩ : ByteArray))
   (chk (leI 0 1) (chk (ltI 1 (List.length t1 : Int)) (br ((eqI ((nth TS0 t1 1).1) 1) && (eqS ((nth TS0 t1 1).2) (⟨#[99, 97, 116, 32]⟩ : ByteArray)))
    (chk (leI 0 2) (chk (ltI 2 (List.length t1 : Int)) (some (eqS ((nth TS0 t1 2).2) (⟨#[99, 97, 109, 101, 46]⟩ : ByteArray)))))
    (some false))))
   (some false))))
  (some false) := by kernel_rfl
theorem CleanSame_eq (K : Nat) (x0 : List TS0.den) (x1 : List TS0.den) : CleanSame (K + 1) x0 x1 =
  br (!eqI (List.length x0 : Int) (List.length x1 : Int))
  (some false)
  (CleanSame_j0 K K x0 x1) := by kernel_rfl
theorem CleanSame_j0_eq (K k : Nat) (x0 : List TS0.den) (x1 : List TS0.den) : CleanSame_j0 K (k + 1) x0 x1 =
  CleanSame_l0 K k x0 x1 (List.length x0 : Int) 0 := by kernel_rfl
theorem CleanSame_l0_eq (K k : Nat) (x0 : List TS0.den) (x1 : List TS0.den) (x12 : Int) (x13 : Int) : CleanSame_l0 K (k + 1) x0 x1 x12 x13 =
  br (ltI x13 x12)
  (CleanSame_j1 K k x0 x1 x12 x13)
  (some true) := by kernel_rfl
theorem CleanSame_j1_eq (K k : Nat) (x0 : List TS0.den) (x1 : List TS0.den) (x12 : Int) (x13 : Int) : CleanSame_j1 K (k + 1) x0 x1 x12 x13 =
  chk (leI 0 x13) (chk (ltI x13 (List.length x0 : Int)) (chk (leI 0 x13) (chk (ltI x13 (List.length x1 : Int)) (br (!((eqI ((nth TS0 x0 x13).1) ((nth TS0 x1 x13).1)) && (eqS ((nth TS0 x0 x13).2) ((nth TS0 x1 x13).2))))
  (some false)
  (CleanSame_l0 K k x0 x1 x12 (IntKind.i64.wrap (x13 + 1))))))) := by kernel_rfl
theorem cleanOf_eq (K : Nat) (x0 : List TS0.den) : cleanOf (K + 1) x0 =
  cleanOf_l0 K K [] x0 (List.length x0 : Int) 0 := by kernel_rfl
theorem cleanOf_l0_eq (K k : Nat) (x3 : List TS0.den) (x6 : List TS0.den) (x7 : Int) (x8 : Int) : cleanOf_l0 K (k + 1) x3 x6 x7 x8 =
  br (ltI x8 x7)
  (cleanOf_j0 K k x3 x6 x7 x8)
  (some x3) := by kernel_rfl
theorem cleanOf_j0_eq (K k : Nat) (x3 : List TS0.den) (x6 : List TS0.den) (x7 : Int) (x8 : Int) : cleanOf_j0 K (k + 1) x3 x6 x7 x8 =
  chk (leI 0 x8) (chk (ltI x8 (List.length x6 : Int)) (chk (ltI ((List.length x3 : Int) + (List.length [(nth TS0 x6 x8)] : Int)) 1000000000000) (cleanOf_l0 K k (x3 ++ [(nth TS0 x6 x8)]) x6 x7 (IntKind.i64.wrap (x8 + 1))))) := by kernel_rfl
theorem CleanLossless_eq (K : Nat) (x0 : List TS0.den) : CleanLossless (K + 1) x0 =
  Option.bind (plain K) fun t1 =>
  Option.bind (diffs K x0) fun t2 =>
  Option.bind (DiffCleanupSemanticLossless K t1 t2) fun t3 =>
  Option.bind (back K t3) fun t4 =>
  some t4 := by kernel_rfl
theorem cleanOwn_eq (K : Nat) (x0 : List TS0.den) : cleanOwn (K + 1) x0 =
  chk (ltI (List.length x0 : Int) 1000000000000) (some x0) := by kernel_rfl
theorem CleanKept_eq (K : Nat) (x0 : List TS0.den) (x1 : List TS0.den) : CleanKept (K + 1) x0 x1 =
  Option.bind (CleanSide K x0 1) fun t1 =>
  Option.bind (CleanSide K x1 1) fun t2 =>
  br (eqS t1 t2)
  (Option.bind (CleanSide K x0 (-1)) fun t3 =>
   Option.bind (CleanSide K x1 (-1)) fun t4 =>
   some (eqS t3 t4))
  (some false) := by kernel_rfl
theorem cleanWord_eq (K : Nat) (x0 : ByteArray) : cleanWord (K + 1) x0 =
  cleanWord_l0 K K x0 0 := by kernel_rfl
theorem cleanWord_l0_eq (K k : Nat) (x0 : ByteArray) (x3 : Int) : cleanWord_l0 K (k + 1) x0 x3 =
  br (ltI x3 (ByteArray.size x0 : Int))
  (br (ltI x3 13)
   (cleanWord_j0 K k x0 x3)
   (cleanWord_j1 K k x0))
  (cleanWord_j1 K k x0) := by kernel_rfl
theorem cleanWord_j0_eq (K k : Nat) (x0 : ByteArray) (x3 : Int) : cleanWord_j0 K (k + 1) x0 x3 =
  chk (leI 0 x3) (chk (ltI x3 (ByteArray.size x0 : Int)) (br (ltI (bt x0 x3) 97)
  (cleanWord_j2 K k x0 x3 true)
  (chk (leI 0 x3) (chk (ltI x3 (ByteArray.size x0 : Int)) (cleanWord_j2 K k x0 x3 (ltI 122 (bt x0 x3))))))) := by kernel_rfl
theorem cleanWord_j1_eq (K k : Nat) (x0 : ByteArray) : cleanWord_j1 K (k + 1) x0 =
  br (ltI 0 (ByteArray.size x0 : Int))
  (some (leI (ByteArray.size x0 : Int) 12))
  (some false) := by kernel_rfl
theorem cleanWord_j2_eq (K k : Nat) (x0 : ByteArray) (x3 : Int) (x23 : Bool) : cleanWord_j2 K (k + 1) x0 x3 x23 =
  br x23
  (some false)
  (cleanWord_l0 K k x0 (IntKind.i64.wrap (x3 + 1))) := by kernel_rfl
theorem cleanFew_eq (K : Nat) (x0 : List TS0.den) : cleanFew (K + 1) x0 =
  br (leI (List.length x0 : Int) 12)
  (Option.bind (cleanOf K x0) fun t1 =>
   Option.bind (CleanRight K t1 12 40 false) fun t2 =>
   some t2)
  (some false) := by kernel_rfl
theorem CleanMerge_eq (K : Nat) (x0 : List TS0.den) : CleanMerge (K + 1) x0 =
  Option.bind (plain K) fun t1 =>
  Option.bind (diffs K x0) fun t2 =>
  Option.bind (DiffCleanupMerge K t1 t2) fun t3 =>
  Option.bind (back K t3) fun t4 =>
  some t4 := by kernel_rfl
theorem CleanEdits_eq (K : Nat) (x0 : List TS0.den) : CleanEdits (K + 1) x0 =
  CleanEdits_l0 K K 0 0 x0 (List.length x0 : Int) 0 := by kernel_rfl
theorem CleanEdits_l0_eq (K k : Nat) (x4 : Int) (x5 : Int) (x8 : List TS0.den) (x9 : Int) (x10 : Int) : CleanEdits_l0 K (k + 1) x4 x5 x8 x9 x10 =
  br (ltI x10 x9)
  (CleanEdits_j0 K k x4 x5 x8 x9 x10)
  (some (x4, x5)) := by kernel_rfl
theorem CleanEdits_j0_eq (K k : Nat) (x4 : Int) (x5 : Int) (x8 : List TS0.den) (x9 : Int) (x10 : Int) : CleanEdits_j0 K (k + 1) x4 x5 x8 x9 x10 =
  chk (leI 0 x10) (chk (ltI x10 (List.length x8 : Int)) (br (!eqI ((nth TS0 x8 x10).1) 0)
  (chk (nleI (List.length (runesI ((nth TS0 x8 x10).2))) 70368744177664) (CleanEdits_l0 K k (IntKind.i64.wrap (x4 + 1)) (IntKind.i64.wrap (x5 + (List.length (runesI ((nth TS0 x8 x10).2)) : Int))) x8 x9 (IntKind.i64.wrap (x10 + 1))))
  (CleanEdits_l0 K k x4 x5 x8 x9 (IntKind.i64.wrap (x10 + 1))))) := by kernel_rfl
theorem zzFits4_eq (K : Nat) (x0 : TS0.den) : zzFits4 (K + 1) x0 =
  br (ltI 2147483647 (ByteArray.size x0.2 : Int))
  (some false)
  (some true) := by kernel_rfl
theorem CleanRight_eq (K : Nat) (x0 : List TS0.den) (x1 : Int) (x2 : Int) (x3 : Bool) : CleanRight (K + 1) x0 x1 x2 x3 =
  br (ltI x1 (List.length x0 : Int))
  (some false)
  (CleanRight_j0 K K x0 x2 x3) := by kernel_rfl
theorem CleanRight_j0_eq (K k : Nat) (x0 : List TS0.den) (x2 : Int) (x3 : Bool) : CleanRight_j0 K (k + 1) x0 x2 x3 =
  CleanRight_l0 K k x2 x3 x0 (List.length x0 : Int) 0 := by kernel_rfl
theorem CleanRight_l0_eq (K k : Nat) (x2 : Int) (x3 : Bool) (x16 : List TS0.den) (x17 : Int) (x18 : Int) : CleanRight_l0 K (k + 1) x2 x3 x16 x17 x18 =
  br (ltI x18 x17)
  (CleanRight_j1 K k x2 x3 x16 x17 x18)
  (some true) := by kernel_rfl
theorem CleanRight_j1_eq (K k : Nat) (x2 : Int) (x3 : Bool) (x16 : List TS0.den) (x17 : Int) (x18 : Int) : CleanRight_j1 K (k + 1) x2 x3 x16 x17 x18 =
  chk (leI 0 x18) (chk (ltI x18 (List.length x16 : Int)) (br (ltI ((nth TS0 x16 x18).1) (-1))
  (CleanRight_j2 K k x2 x3 0 [(nth TS0 x16 x18)] x16 x17 x18 true)
  (br (ltI 1 ((nth TS0 x16 x18).1))
   (CleanRight_j2 K k x2 x3 0 [(nth TS0 x16 x18)] x16 x17 x18 true)
   (br (eqS ((nth TS0 x16 x18).2) (⟨#[]⟩ : ByteArray))
    (CleanRight_j2 K k x2 x3 0 [(nth TS0 x16 x18)] x16 x17 x18 true)
    (Option.bind (CleanChars K ((nth TS0 x16 x18).2) x2) fun t1 =>
     CleanRight_j2 K k x2 x3 0 [(nth TS0 x16 x18)] x16 x17 x18 (!t1)))))) := by kernel_rfl
theorem CleanRight_j2_eq (K k : Nat) (x2 : Int) (x3 : Bool) (i10 : Int) (x10 : List TS0.den) (x16 : List TS0.den) (x17 : Int) (x18 : Int) (x41 : Bool) : CleanRight_j2 K (k + 1) x2 x3 i10 x10 x16 x17 x18 x41 =
  br x41
  (some false)
  (CleanRight_j3 K k x2 x3 i10 x10 x16 x17 x18) := by kernel_rfl
theorem CleanRight_j3_eq (K k : Nat) (x2 : Int) (x3 : Bool) (i10 : Int) (x10 : List TS0.den) (x16 : List TS0.den) (x17 : Int) (x18 : Int) : CleanRight_j3 K (k + 1) x2 x3 i10 x10 x16 x17 x18 =
  CleanRight_l1 K k x2 x3 i10 x10 0 x16 x17 x18 := by kernel_rfl
theorem CleanRight_l1_eq (K k : Nat) (x2 : Int) (x3 : Bool) (i10 : Int) (x10 : List TS0.den) (x11 : Int) (x16 : List TS0.den) (x17 : Int) (x18 : Int) : CleanRight_l1 K (k + 1) x2 x3 i10 x10 x11 x16 x17 x18 =
  br (ltI x11 (ByteArray.size ((nth TS0 x10 i10).2) : Int))
  (br x3
   (CleanRight_j4 K k x2 x3 i10 x10 x11 x16 x17 x18)
   (CleanRight_l0 K k x2 x3 x16 x17 (IntKind.i64.wrap (x18 + 1))))
  (CleanRight_l0 K k x2 x3 x16 x17 (IntKind.i64.wrap (x18 + 1))) := by kernel_rfl
theorem CleanRight_j4_eq (K k : Nat) (x2 : Int) (x3 : Bool) (i10 : Int) (x10 : List TS0.den) (x11 : Int) (x16 : List TS0.den) (x17 : Int) (x18 : Int) : CleanRight_j4 K (k + 1) x2 x3 i10 x10 x11 x16 x17 x18 =
  chk (leI 0 x11) (chk (ltI x11 (ByteArray.size ((nth TS0 x10 i10).2) : Int)) (br (ltI 126 (bt ((nth TS0 x10 i10).2) x11))
  (some false)
  (CleanRight_l1 K k x2 x3 i10 x10 (IntKind.i64.wrap (x11 + 1)) x16 x17 x18))) := by kernel_rfl
theorem back_eq (K : Nat) (x0 : List TS2.den) : back (K + 1) x0 =
  back_l0 K K [] x0 (List.length x0 : Int) 0 := by kernel_rfl
theorem back_l0_eq (K k : Nat) (x3 : List TS0.den) (x6 : List TS2.den) (x7 : Int) (x8 : Int) : back_l0 K (k + 1) x3 x6 x7 x8 =
  br (ltI x8 x7)
  (back_j0 K k x3 x6 x7 x8)
  (some x3) := by kernel_rfl
theorem back_j0_eq (K k : Nat) (x3 : List TS0.den) (x6 : List TS2.den) (x7 : Int) (x8 : Int) : back_j0 K (k + 1) x3 x6 x7 x8 =
  chk (leI 0 x8) (chk (ltI x8 (List.length x6 : Int)) (chk (ltI ((List.length x3 : Int) + (List.length [((IntKind.i64.wrap ((nth TS2 x6 x8).1)), (nth TS2 x6 x8).2)] : Int)) 1000000000000) (back_l0 K k (x3 ++ [((IntKind.i64.wrap ((nth TS2 x6 x8).1)), (nth TS2 x6 x8).2)]) x6 x7 (IntKind.i64.wrap (x8 + 1))))) := by kernel_rfl
theorem plain_eq (K : Nat) : plain (K + 1) =
  Option.bind (New K) fun t1 =>
  some (0, (t1.2.1, (t1.2.2.1, (t1.2.2.2.1, (t1.2.2.2.2.1, (t1.2.2.2.2.2.1, t1.2.2.2.2.2.2)))))) := by kernel_rfl
theorem DiffCleanupSemanticLossless_eq (K : Nat) (x0 : TS1.den) (x1 : List TS2.den) : DiffCleanupSemanticLossless (K + 1) x0 x1 =
  DiffCleanupSemanticLossless_l0 K K 0 [x0] x1 1 := by kernel_rfl
theorem DiffCleanupSemanticLossless_l0_eq (K k : Nat) (i0 : Int) (x0 : List TS1.den) (x1 : List TS2.den) (x5 : Int) : DiffCleanupSemanticLossless_l0 K (k + 1) i0 x0 x1 x5 =
  br (ltI x5 (IntKind.i64.wrap ((List.length x1 : Int) - 1)))
  (DiffCleanupSemanticLossless_j0 K k i0 x0 x1 x5)
  (some x1) := by kernel_rfl
theorem DiffCleanupSemanticLossless_j0_eq (K k : Nat) (i0 : Int) (x0 : List TS1.den) (x1 : List TS2.den) (x5 : Int) : DiffCleanupSemanticLossless_j0 K (k + 1) i0 x0 x1 x5 =
  chk (leI 0 (IntKind.i64.wrap (x5 - 1))) (chk (ltI (IntKind.i64.wrap (x5 - 1)) (List.length x1 : Int)) (br (eqI ((nth TS2 x1 (IntKind.i64.wrap (x5 - 1))).1) 0)
  (chk (leI 0 (IntKind.i64.wrap (x5 + 1))) (chk (ltI (IntKind.i64.wrap (x5 + 1)) (List.length x1 : Int)) (DiffCleanupSemanticLossless_j1 K k i0 x0 x1 x5 (eqI ((nth TS2 x1 (IntKind.i64.wrap (x5 + 1))).1) 0))))
  (DiffCleanupSemanticLossless_j1 K k i0 x0 x1 x5 false))) := by kernel_rfl
theorem DiffCleanupSemanticLossless_j1_eq (K k : Nat) (i0 : Int) (x0 : List TS1.den) (x1 : List TS2.den) (x5 : Int) (x38 : Bool) : DiffCleanupSemanticLossless_j1 K (k + 1) i0 x0 x1 x5 x38 =
  br x38
  (chk (leI 0 (IntKind.i64.wrap (x5 - 1))) (chk (ltI (IntKind.i64.wrap (x5 - 1)) (List.length x1 : Int)) (chk (leI 0 x5) (chk (ltI x5 (List.length x1 : Int)) (chk (leI 0 (IntKind.i64.wrap (x5 + 1))) (chk (ltI (IntKind.i64.wrap (x5 + 1)) (List.length x1 : Int)) (Option.bind (DiffCommonSuffix K (nth TS1 x0 i0) ((nth TS2 x1 (IntKind.i64.wrap (x5 - 1))).2) ((nth TS2 x1 x5).2)) fun t1 =>
   br (ltI 0 t1)
   (chk (leI 0 (IntKind.i64.wrap ((ByteArray.size ((nth TS2 x1 x5).2) : Int) - t1))) (chk (leI (IntKind.i64.wrap ((ByteArray.size ((nth TS2 x1 x5).2) : Int) - t1)) (ByteArray.size ((nth TS2 x1 x5).2) : Int)) (chk (leI (ByteArray.size ((nth TS2 x1 x5).2) : Int) (ByteArray.size ((nth TS2 x1 x5).2) : Int)) (chk (leI 0 0) (chk (leI 0 (IntKind.i64.wrap ((ByteArray.size ((nth TS2 x1 (IntKind.i64.wrap (x5 - 1))).2) : Int) - t1))) (chk (leI (IntKind.i64.wrap ((ByteArray.size ((nth TS2 x1 (IntKind.i64.wrap (x5 - 1))).2) : Int) - t1)) (ByteArray.size ((nth TS2 x1 (IntKind.i64.wrap (x5 - 1))).2) : Int)) (chk (leI 0 0) (chk (leI 0 (IntKind.i64.wrap ((ByteArray.size ((nth TS2 x1 x5).2) : Int) - t1))) (chk (leI (IntKind.i64.wrap ((ByteArray.size ((nth TS2 x1 x5).2) : Int) - t1)) (ByteArray.size ((nth TS2 x1 x5).2) : Int)) (chk (nleI (ByteArray.size (ByteArray.extract ((nth TS2 x1 x5).2) (Int.toNat (IntKind.i64.wrap ((ByteArray.size ((nth TS2 x1 x5).2) : Int) - t1))) (Int.toNat (ByteArray.size ((nth TS2 x1 x5).2) : Int))) + ByteArray.size (ByteArray.extract ((nth TS2 x1 x5).2) (Int.toNat 0) (Int.toNat (IntKind.i64.wrap ((ByteArray.size ((nth TS2 x1 x5).2) : Int) - t1))))) 9223372036854775807) (chk (nleI (ByteArray.size (ByteArray.extract ((nth TS2 x1 x5).2) (Int.toNat (IntKind.i64.wrap ((ByteArray.size ((nth TS2 x1 x5).2) : Int) - t1))) (Int.toNat (ByteArray.size ((nth TS2 x1 x5).2) : Int))) + ByteArray.size ((nth TS2 x1 (IntKind.i64.wrap (x5 + 1))).2)) 9223372036854775807) (DiffCleanupSemanticLossless_j2 K k i0 x0 x1 x5 (ByteArray.extract ((nth TS2 x1 (IntKind.i64.wrap (x5 - 1))).2) (Int.toNat 0) (Int.toNat (IntKind.i64.wrap ((ByteArray.size ((nth TS2 x1 (IntKind.i64.wrap (x5 - 1))).2) : Int) - t1)))) (ByteArray.append (ByteArray.extract ((nth TS2 x1 x5).2) (Int.toNat (IntKind.i64.wrap ((ByteArray.size ((nth TS2 x1 x5).2) : Int) - t1))) (Int.toNat (ByteArray.size ((nth TS2 x1 x5).2) : Int))) (ByteArray.extract ((nth TS2 x1 x5).2) (Int.toNat 0) (Int.toNat (IntKind.i64.wrap ((ByteArray.size ((nth TS2 x1 x5).2) : Int) - t1))))) (ByteArray.append (ByteArray.extract ((nth TS2 x1 x5).2) (Int.toNat (IntKind.i64.wrap ((ByteArray.size ((nth TS2 x1 x5).2) : Int) - t1))) (Int.toNat (ByteArray.size ((nth TS2 x1 x5).2) : Int))) ((nth TS2 x1 (IntKind.i64.wrap (x5 + 1))).2))))))))))))))
   (DiffCleanupSemanticLossless_j2 K k i0 x0 x1 x5 ((nth TS2 x1 (IntKind.i64.wrap (x5 - 1))).2) ((nth TS2 x1 x5).2) ((nth TS2 x1 (IntKind.i64.wrap (x5 + 1))).2)))))))))
  (DiffCleanupSemanticLossless_l0 K k i0 x0 x1 (IntKind.i64.wrap (x5 + 1))) := by kernel_rfl
theorem DiffCleanupSemanticLossless_j2_eq (K k : Nat) (i0 : Int) (x0 : List TS1.den) (x1 : List TS2.den) (x5 : Int) (x6 : ByteArray) (x7 : ByteArray) (x8 : ByteArray) : DiffCleanupSemanticLossless_j2 K (k + 1) i0 x0 x1 x5 x6 x7 x8 =
  Option.bind (diffCleanupSemanticScore K x6 x7) fun t2 =>
  Option.bind (diffCleanupSemanticScore K x7 x8) fun t3 =>
  DiffCleanupSemanticLossless_l1 K k i0 x0 x1 x5 x6 x7 x8 x6 x7 x8 (IntKind.i64.wrap (t2 + t3)) := by kernel_rfl
theorem DiffCleanupSemanticLossless_l1_eq (K k : Nat) (i0 : Int) (x0 : List TS1.den) (x1 : List TS2.den) (x5 : Int) (x6 : ByteArray) (x7 : ByteArray) (x8 : ByteArray) (x11 : ByteArray) (x12 : ByteArray) (x13 : ByteArray) (x14 : Int) : DiffCleanupSemanticLossless_l1 K (k + 1) i0 x0 x1 x5 x6 x7 x8 x11 x12 x13 x14 =
  br (!eqI (ByteArray.size x7 : Int) 0)
  (br (!eqI (ByteArray.size x8 : Int) 0)
   (DiffCleanupSemanticLossless_j3 K k i0 x0 x1 x5 x6 x7 x8 x11 x12 x13 x14)
   (DiffCleanupSemanticLossless_j4 K k i0 x0 x1 x5 x11 x12 x13))
  (DiffCleanupSemanticLossless_j4 K k i0 x0 x1 x5 x11 x12 x13) := by kernel_rfl
theorem DiffCleanupSemanticLossless_j3_eq (K k : Nat) (i0 : Int) (x0 : List TS1.den) (x1 : List TS2.den) (x5 : Int) (x6 : ByteArray) (x7 : ByteArray) (x8 : ByteArray) (x11 : ByteArray) (x12 : ByteArray) (x13 : ByteArray) (x14 : Int) : DiffCleanupSemanticLossless_j3 K (k + 1) i0 x0 x1 x5 x6 x7 x8 x11 x12 x13 x14 =
  Option.bind (DecodeRuneInString K x7) fun t4 =>
  br (ltI (ByteArray.size x8 : Int) t4.2)
  (DiffCleanupSemanticLossless_j4 K k i0 x0 x1 x5 x11 x12 x13)
  (chk (leI 0 0) (chk (leI 0 t4.2) (chk (leI t4.2 (ByteArray.size x7 : Int)) (chk (leI 0 0) (chk (leI 0 t4.2) (chk (leI t4.2 (ByteArray.size x8 : Int)) (br (!(eqS (ByteArray.extract x7 (Int.toNat 0) (Int.toNat t4.2)) (ByteArray.extract x8 (Int.toNat 0) (Int.toNat t4.2))))
   (DiffCleanupSemanticLossless_j4 K k i0 x0 x1 x5 x11 x12 x13)
   (DiffCleanupSemanticLossless_j5 K k i0 x0 x1 x5 x6 x7 x8 x11 x12 x13 x14 t4.2)))))))) := by kernel_rfl
theorem DiffCleanupSemanticLossless_j4_eq (K k : Nat) (i0 : Int) (x0 : List TS1.den) (x1 : List TS2.den) (x5 : Int) (x11 : ByteArray) (x12 : ByteArray) (x13 : ByteArray) : DiffCleanupSemanticLossless_j4 K (k + 1) i0 x0 x1 x5 x11 x12 x13 =
  chk (leI 0 (IntKind.i64.wrap (x5 - 1))) (chk (ltI (IntKind.i64.wrap (x5 - 1)) (List.length x1 : Int)) (br (!(eqS ((nth TS2 x1 (IntKind.i64.wrap (x5 - 1))).2) x11))
  (br (!eqI (ByteArray.size x11 : Int) 0)
   (chk (leI 0 (IntKind.i64.wrap (x5 - 1))) (chk (ltI (IntKind.i64.wrap (x5 - 1)) (List.length x1 : Int)) (DiffCleanupSemanticLossless_j6 K k i0 x0 (List.set x1 (Int.toNat (IntKind.i64.wrap (x5 - 1))) ((nth TS2 x1 (IntKind.i64.wrap (x5 - 1))).1, x11)) x5 x12 x13)))
   (Option.bind (splice K x1 (IntKind.i64.wrap (x5 - 1)) 1 []) fun t5 =>
    DiffCleanupSemanticLossless_j6 K k i0 x0 t5 (IntKind.i64.wrap (x5 - 1)) x12 x13))
  (DiffCleanupSemanticLossless_l0 K k i0 x0 x1 (IntKind.i64.wrap (x5 + 1))))) := by kernel_rfl
theorem DiffCleanupSemanticLossless_j5_eq (K k : Nat) (i0 : Int) (x0 : List TS1.den) (x1 : List TS2.den) (x5 : Int) (x6 : ByteArray) (x7 : ByteArray) (x8 : ByteArray) (x11 : ByteArray) (x12 : ByteArray) (x13 : ByteArray) (x14 : Int) (x16 : Int) : DiffCleanupSemanticLossless_j5 K (k + 1) i0 x0 x1 x5 x6 x7 x8 x11 x12 x13 x14 x16 =
  chk (leI 0 0) (chk (leI 0 x16) (chk (leI x16 (ByteArray.size x7 : Int)) (chk (nleI (ByteArray.size x6 + ByteArray.size (ByteArray.extract x7 (Int.toNat 0) (Int.toNat x16))) 9223372036854775807) (chk (leI 0 x16) (chk (leI x16 (ByteArray.size x7 : Int)) (chk (leI (ByteArray.size x7 : Int) (ByteArray.size x7 : Int)) (chk (leI 0 0) (chk (leI 0 x16) (chk (leI x16 (ByteArray.size x8 : Int)) (chk (nleI (ByteArray.size (ByteArray.extract x7 (Int.toNat x16) (Int.toNat (ByteArray.size x7 : Int))) + ByteArray.size (ByteArray.extract x8 (Int.toNat 0) (Int.toNat x16))) 9223372036854775807) (chk (leI 0 x16) (chk (leI x16 (ByteArray.size x8 : Int)) (chk (leI (ByteArray.size x8 : Int) (ByteArray.size x8 : Int)) (Option.bind (diffCleanupSemanticScore K (ByteArray.append x6 (ByteArray.extract x7 (Int.toNat 0) (Int.toNat x16))) (ByteArray.append (ByteArray.extract x7 (Int.toNat x16) (Int.toNat (ByteArray.size x7 : Int))) (ByteArray.extract x8 (Int.toNat 0) (Int.toNat x16)))) fun t6 =>
  Option.bind (diffCleanupSemanticScore K (ByteArray.append (ByteArray.extract x7 (Int.toNat x16) (Int.toNat (ByteArray.size x7 : Int))) (ByteArray.extract x8 (Int.toNat 0) (Int.toNat x16))) (ByteArray.extract x8 (Int.toNat x16) (Int.toNat (ByteArray.size x8 : Int)))) fun t7 =>
  br (leI x14 (IntKind.i64.wrap (t6 + t7)))
  (DiffCleanupSemanticLossless_l1 K k i0 x0 x1 x5 (ByteArray.append x6 (ByteArray.extract x7 (Int.toNat 0) (Int.toNat x16))) (ByteArray.append (ByteArray.extract x7 (Int.toNat x16) (Int.toNat (ByteArray.size x7 : Int))) (ByteArray.extract x8 (Int.toNat 0) (Int.toNat x16))) (ByteArray.extract x8 (Int.toNat x16) (Int.toNat (ByteArray.size x8 : Int))) (ByteArray.append x6 (ByteArray.extract x7 (Int.toNat 0) (Int.toNat x16))) (ByteArray.append (ByteArray.extract x7 (Int.toNat x16) (Int.toNat (ByteArray.size x7 : Int))) (ByteArray.extract x8 (Int.toNat 0) (Int.toNat x16))) (ByteArray.extract x8 (Int.toNat x16) (Int.toNat (ByteArray.size x8 : Int))) (IntKind.i64.wrap (t6 + t7)))
  (DiffCleanupSemanticLossless_l1 K k i0 x0 x1 x5 (ByteArray.append x6 (ByteArray.extract x7 (Int.toNat 0) (Int.toNat x16))) (ByteArray.append (ByteArray.extract x7 (Int.toNat x16) (Int.toNat (ByteArray.size x7 : Int))) (ByteArray.extract x8 (Int.toNat 0) (Int.toNat x16))) (ByteArray.extract x8 (Int.toNat x16) (Int.toNat (ByteArray.size x8 : Int))) x11 x12 x13 x14))))))))))))))) := by kernel_rfl
theorem DiffCleanupSemanticLossless_j6_eq (K k : Nat) (i0 : Int) (x0 : List TS1.den) (x1 : List TS2.den) (x5 : Int) (x12 : ByteArray) (x13 : ByteArray) : DiffCleanupSemanticLossless_j6 K (k + 1) i0 x0 x1 x5 x12 x13 =
  chk (leI 0 x5) (chk (ltI x5 (List.length x1 : Int)) (br (!eqI (ByteArray.size x13 : Int) 0)
  (chk (leI 0 (IntKind.i64.wrap (x5 + 1))) (chk (ltI (IntKind.i64.wrap (x5 + 1)) (List.length (List.set x1 (Int.toNat x5) ((nth TS2 x1 x5).1, x12)) : Int)) (DiffCleanupSemanticLossless_l0 K k i0 x0 (List.set (List.set x1 (Int.toNat x5) ((nth TS2 x1 x5).1, x12)) (Int.toNat (IntKind.i64.wrap (x5 + 1))) ((nth TS2 (List.set x1 (Int.toNat x5) ((nth TS2 x1 x5).1, x12)) (IntKind.i64.wrap (x5 + 1))).1, x13)) (IntKind.i64.wrap (x5 + 1)))))
  (chk (leI 0 0) (chk (leI 0 (IntKind.i64.wrap (x5 + 1))) (chk (leI (IntKind.i64.wrap (x5 + 1)) (List.length (List.set x1 (Int.toNat x5) ((nth TS2 x1 x5).1, x12)) : Int)) (chk (leI 0 (IntKind.i64.wrap (x5 + 2))) (chk (leI (IntKind.i64.wrap (x5 + 2)) (List.length (List.set x1 (Int.toNat x5) ((nth TS2 x1 x5).1, x12)) : Int)) (chk (leI (List.length (List.set x1 (Int.toNat x5) ((nth TS2 x1 x5).1, x12)) : Int) (List.length (List.set x1 (Int.toNat x5) ((nth TS2 x1 x5).1, x12)) : Int)) (chk (eqI 0 0) (chk (ltI ((IntKind.i64.wrap (x5 + 1)) + (List.length (List.take (Int.toNat (List.length (List.set x1 (Int.toNat x5) ((nth TS2 x1 x5).1, x12)) : Int) - Int.toNat (IntKind.i64.wrap (x5 + 2))) (List.drop (Int.toNat (IntKind.i64.wrap (x5 + 2))) (List.set x1 (Int.toNat x5) ((nth TS2 x1 x5).1, x12)))) : Int)) 1000000000000) (DiffCleanupSemanticLossless_l0 K k i0 x0 (List.take (Int.toNat (IntKind.i64.wrap (x5 + 1))) (List.set x1 (Int.toNat x5) ((nth TS2 x1 x5).1, x12)) ++ (List.take (Int.toNat (List.length (List.set x1 (Int.toNat x5) ((nth TS2 x1 x5).1, x12)) : Int) - Int.toNat (IntKind.i64.wrap (x5 + 2))) (List.drop (Int.toNat (IntKind.i64.wrap (x5 + 2))) (List.set x1 (Int.toNat x5) ((nth TS2 x1 x5).1, x12))))) (IntKind.i64.wrap ((IntKind.i64.wrap (x5 - 1)) + 1))))))))))))) := by kernel_rfl
theorem diffs_eq (K : Nat) (x0 : List TS0.den) : diffs (K + 1) x0 =
  diffs_l0 K K [] x0 (List.length x0 : Int) 0 := by kernel_rfl
theorem diffs_l0_eq (K k : Nat) (x3 : List TS2.den) (x6 : List TS0.den) (x7 : Int) (x8 : Int) : diffs_l0 K (k + 1) x3 x6 x7 x8 =
  br (ltI x8 x7)
  (diffs_j0 K k x3 x6 x7 x8)
  (some x3) := by kernel_rfl
theorem diffs_j0_eq (K k : Nat) (x3 : List TS2.den) (x6 : List TS0.den) (x7 : Int) (x8 : Int) : diffs_j0 K (k + 1) x3 x6 x7 x8 =
  chk (leI 0 x8) (chk (ltI x8 (List.length x6 : Int)) (chk (ltI ((List.length x3 : Int) + (List.length [((IntKind.i8.wrap ((nth TS0 x6 x8).1)), (nth TS0 x6 x8).2)] : Int)) 1000000000000) (diffs_l0 K k (x3 ++ [((IntKind.i8.wrap ((nth TS0 x6 x8).1)), (nth TS0 x6 x8).2)]) x6 x7 (IntKind.i64.wrap (x8 + 1))))) := by kernel_rfl
theorem CleanSide_eq (K : Nat) (x0 : List TS0.den) (x1 : Int) : CleanSide (K + 1) x0 x1 =
  CleanSide_l0 K K x1 (⟨#[]⟩ : ByteArray) x0 (List.length x0 : Int) 0 := by kernel_rfl
theorem CleanSide_l0_eq (K k : Nat) (x1 : Int) (x5 : ByteArray) (x8 : List TS0.den) (x9 : Int) (x10 : Int) : CleanSide_l0 K (k + 1) x1 x5 x8 x9 x10 =
  br (ltI x10 x9)
  (CleanSide_j0 K k x1 x5 x8 x9 x10)
  (some x5) := by kernel_rfl
theorem CleanSide_j0_eq (K k : Nat) (x1 : Int) (x5 : ByteArray) (x8 : List TS0.den) (x9 : Int) (x10 : Int) : CleanSide_j0 K (k + 1) x1 x5 x8 x9 x10 =
  chk (leI 0 x10) (chk (ltI x10 (List.length x8 : Int)) (br (!eqI ((nth TS0 x8 x10).1) x1)
  (chk (nleI (ByteArray.size x5 + ByteArray.size ((nth TS0 x8 x10).2)) 9223372036854775807) (CleanSide_l0 K k x1 (ByteArray.append x5 ((nth TS0 x8 x10).2)) x8 x9 (IntKind.i64.wrap (x10 + 1))))
  (CleanSide_l0 K k x1 x5 x8 x9 (IntKind.i64.wrap (x10 + 1))))) := by kernel_rfl
theorem DiffCleanupMerge_eq (K : Nat) (x0 : TS1.den) (x1 : List TS2.den) : DiffCleanupMerge (K + 1) x0 x1 =
  chk (ltI ((List.length x1 : Int) + (List.length [(0, (⟨#[]⟩ : ByteArray))] : Int)) 1000000000000) (DiffCleanupMerge_l0 K K 0 [x0] (x1 ++ [(0, (⟨#[]⟩ : ByteArray))]) 0 0 0 [] []) := by kernel_rfl
theorem DiffCleanupMerge_l0_eq (K k : Nat) (i0 : Int) (x0 : List TS1.den) (x1 : List TS2.den) (x5 : Int) (x6 : Int) (x7 : Int) (x9 : List Int) (x10 : List Int) : DiffCleanupMerge_l0 K (k + 1) i0 x0 x1 x5 x6 x7 x9 x10 =
  br (ltI x5 (List.length x1 : Int))
  (DiffCleanupMerge_j0 K k i0 x0 x1 x5 x6 x7 x9 x10)
  (DiffCleanupMerge_j1 K k i0 x0 x1) := by kernel_rfl
theorem DiffCleanupMerge_j0_eq (K k : Nat) (i0 : Int) (x0 : List TS1.den) (x1 : List TS2.den) (x5 : Int) (x6 : Int) (x7 : Int) (x9 : List Int) (x10 : List Int) : DiffCleanupMerge_j0 K (k + 1) i0 x0 x1 x5 x6 x7 x9 x10 =
  chk (leI 0 x5) (chk (ltI x5 (List.length x1 : Int)) (br (eqI ((nth TS2 x1 x5).1) 1)
  (chk (leI 0 x5) (chk (ltI x5 (List.length x1 : Int)) (chk (nleI (List.length (runesI ((nth TS2 x1 x5).2))) 70368744177664) (chk (ltI ((List.length x10 : Int) + (List.length (runesI ((nth TS2 x1 x5).2)) : Int)) 1000000000000) (DiffCleanupMerge_l0 K k i0 x0 x1 (IntKind.i64.wrap (x5 + 1)) x6 (IntKind.i64.wrap (x7 + 1)) x9 (x10 ++ (runesI ((nth TS2 x1 x5).2))))))))
  (br (eqI ((nth TS2 x1 x5).1) (-1))
   (chk (leI 0 x5) (chk (ltI x5 (List.length x1 : Int)) (chk (nleI (List.length (runesI ((nth TS2 x1 x5).2))) 70368744177664) (chk (ltI ((List.length x9 : Int) + (List.length (runesI ((nth TS2 x1 x5).2)) : Int)) 1000000000000) (DiffCleanupMerge_l0 K k i0 x0 x1 (IntKind.i64.wrap (x5 + 1)) (IntKind.i64.wrap (x6 + 1)) x7 (x9 ++ (runesI ((nth TS2 x1 x5).2))) x10)))))
   (br (eqI ((nth TS2 x1 x5).1) 0)
    (br (ltI 1 (IntKind.i64.wrap (x6 + x7)))
     (br (!eqI x6 0)
      (DiffCleanupMerge_j2 K k i0 x0 x1 x5 x6 x7 x9 x10 (!eqI x7 0))
      (DiffCleanupMerge_j2 K k i0 x0 x1 x5 x6 x7 x9 x10 false))
     (br (!eqI x5 0)
      (chk (leI 0 (IntKind.i64.wrap (x5 - 1))) (chk (ltI (IntKind.i64.wrap (x5 - 1)) (List.length x1 : Int)) (DiffCleanupMerge_j3 K k i0 x0 x1 x5 (eqI ((nth TS2 x1 (IntKind.i64.wrap (x5 - 1))).1) 0))))
      (DiffCleanupMerge_j3 K k i0 x0 x1 x5 false)))
    (DiffCleanupMerge_l0 K k i0 x0 x1 x5 x6 x7 x9 x10))))) := by kernel_rfl
theorem DiffCleanupMerge_j1_eq (K k : Nat) (i0 : Int) (x0 : List TS1.den) (x1 : List TS2.den) : DiffCleanupMerge_j1 K (k + 1) i0 x0 x1 =
  chk (leI 0 (IntKind.i64.wrap ((List.length x1 : Int) - 1))) (chk (ltI (IntKind.i64.wrap ((List.length x1 : Int) - 1)) (List.length x1 : Int)) (br (eqI (ByteArray.size ((nth TS2 x1 (IntKind.i64.wrap ((List.length x1 : Int) - 1))).2) : Int) 0)
  (chk (leI 0 0) (chk (leI 0 (IntKind.i64.wrap ((List.length x1 : Int) - 1))) (chk (leI (IntKind.i64.wrap ((List.length x1 : Int) - 1)) (List.length x1 : Int)) (DiffCleanupMerge_j4 K k i0 x0 (List.take (Int.toNat (IntKind.i64.wrap ((List.length x1 : Int) - 1))) x1)))))
  (DiffCleanupMerge_j4 K k i0 x0 x1))) := by kernel_rfl
theorem DiffCleanupMerge_j2_eq (K k : Nat) (i0 : Int) (x0 : List TS1.den) (x1 : List TS2.den) (x5 : Int) (x6 : Int) (x7 : Int) (x9 : List Int) (x10 : List Int) (x67 : Bool) : DiffCleanupMerge_j2 K (k + 1) i0 x0 x1 x5 x6 x7 x9 x10 x67 =
  br x67
  (Option.bind (commonPrefixLength K x10 x9) fun t1 =>
   br (!eqI t1 0)
   (br (ltI 0 (IntKind.i64.wrap ((IntKind.i64.wrap (x5 - x6)) - x7)))
    (chk (leI 0 (IntKind.i64.wrap ((IntKind.i64.wrap ((IntKind.i64.wrap (x5 - x6)) - x7)) - 1))) (chk (ltI (IntKind.i64.wrap ((IntKind.i64.wrap ((IntKind.i64.wrap (x5 - x6)) - x7)) - 1)) (List.length x1 : Int)) (DiffCleanupMerge_j5 K k i0 x0 x1 x5 x6 x7 t1 x9 x10 (IntKind.i64.wrap ((IntKind.i64.wrap (x5 - x6)) - x7)) (eqI ((nth TS2 x1 (IntKind.i64.wrap ((IntKind.i64.wrap ((IntKind.i64.wrap (x5 - x6)) - x7)) - 1))).1) 0))))
    (DiffCleanupMerge_j5 K k i0 x0 x1 x5 x6 x7 t1 x9 x10 (IntKind.i64.wrap ((IntKind.i64.wrap (x5 - x6)) - x7)) false))
   (DiffCleanupMerge_j6 K k i0 x0 x1 x5 x6 x7 x9 x10))
  (DiffCleanupMerge_j7 K k i0 x0 x1 x5 x6 x7 x9 x10) := by kernel_rfl
theorem DiffCleanupMerge_j3_eq (K k : Nat) (i0 : Int) (x0 : List TS1.den) (x1 : List TS2.den) (x5 : Int) (x220 : Bool) : DiffCleanupMerge_j3 K (k + 1) i0 x0 x1 x5 x220 =
  br x220
  (chk (leI 0 (IntKind.i64.wrap (x5 - 1))) (chk (ltI (IntKind.i64.wrap (x5 - 1)) (List.length x1 : Int)) (chk (leI 0 x5) (chk (ltI x5 (List.length x1 : Int)) (chk (nleI (ByteArray.size ((nth TS2 x1 (IntKind.i64.wrap (x5 - 1))).2) + ByteArray.size ((nth TS2 x1 x5).2)) 9223372036854775807) (chk (leI 0 (IntKind.i64.wrap (x5 - 1))) (chk (ltI (IntKind.i64.wrap (x5 - 1)) (List.length x1 : Int)) (chk (leI 0 0) (chk (leI 0 x5) (chk (leI x5 (List.length (List.set x1 (Int.toNat (IntKind.i64.wrap (x5 - 1))) ((nth TS2 x1 (IntKind.i64.wrap (x5 - 1))).1, (ByteArray.append ((nth TS2 x1 (IntKind.i64.wrap (x5 - 1))).2) ((nth TS2 x1 x5).2)))) : Int)) (chk (leI 0 (IntKind.i64.wrap (x5 + 1))) (chk (leI (IntKind.i64.wrap (x5 + 1)) (List.length (List.set x1 (Int.toNat (IntKind.i64.wrap (x5 - 1))) ((nth TS2 x1 (IntKind.i64.wrap (x5 - 1))).1, (ByteArray.append ((nth TS2 x1 (IntKind.i64.wrap (x5 - 1))).2) ((nth TS2 x1 x5).2)))) : Int)) (chk (leI (List.length (List.set x1 (Int.toNat (IntKind.i64.wrap (x5 - 1))) ((nth TS2 x1 (IntKind.i64.wrap (x5 - 1))).1, (ByteArray.append ((nth TS2 x1 (IntKind.i64.wrap (x5 - 1))).2) ((nth TS2 x1 x5).2)))) : Int) (List.length (List.set x1 (Int.toNat (IntKind.i64.wrap (x5 - 1))) ((nth TS2 x1 (IntKind.i64.wrap (x5 - 1))).1, (ByteArray.append ((nth TS2 x1 (IntKind.i64.wrap (x5 - 1))).2) ((nth TS2 x1 x5).2)))) : Int)) (chk (eqI 0 0) (chk (ltI (x5 + (List.length (List.take (Int.toNat (List.length (List.set x1 (Int.toNat (IntKind.i64.wrap (x5 - 1))) ((nth TS2 x1 (IntKind.i64.wrap (x5 - 1))).1, (ByteArray.append ((nth TS2 x1 (IntKind.i64.wrap (x5 - 1))).2) ((nth TS2 x1 x5).2)))) : Int) - Int.toNat (IntKind.i64.wrap (x5 + 1))) (List.drop (Int.toNat (IntKind.i64.wrap (x5 + 1))) (List.set x1 (Int.toNat (IntKind.i64.wrap (x5 - 1))) ((nth TS2 x1 (IntKind.i64.wrap (x5 - 1))).1, (ByteArray.append ((nth TS2 x1 (IntKind.i64.wrap (x5 - 1))).2) ((nth TS2 x1 x5).2)))))) : Int)) 1000000000000) (DiffCleanupMerge_l0 K k i0 x0 (List.take (Int.toNat x5) (List.set x1 (Int.toNat (IntKind.i64.wrap (x5 - 1))) ((nth TS2 x1 (IntKind.i64.wrap (x5 - 1))).1, (ByteArray.append ((nth TS2 x1 (IntKind.i64.wrap (x5 - 1))).2) ((nth TS2 x1 x5).2)))) ++ (List.take (Int.toNat (List.length (List.set x1 (Int.toNat (IntKind.i64.wrap (x5 - 1))) ((nth TS2 x1 (IntKind.i64.wrap (x5 - 1))).1, (ByteArray.append ((nth TS2 x1 (IntKind.i64.wrap (x5 - 1))).2) ((nth TS2 x1 x5).2)))) : Int) - Int.toNat (IntKind.i64.wrap (x5 + 1))) (List.drop (Int.toNat (IntKind.i64.wrap (x5 + 1))) (List.set x1 (Int.toNat (IntKind.i64.wrap (x5 - 1))) ((nth TS2 x1 (IntKind.i64.wrap (x5 - 1))).1, (ByteArray.append ((nth TS2 x1 (IntKind.i64.wrap (x5 - 1))).2) ((nth TS2 x1 x5).2))))))) x5 0 0 [] []))))))))))))))))
  (DiffCleanupMerge_l0 K k i0 x0 x1 (IntKind.i64.wrap (x5 + 1)) 0 0 [] []) := by kernel_rfl
end Go.Proofs.YtaabfadjemmibaaDoor.E
