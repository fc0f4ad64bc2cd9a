import Derived.Test.YtaabfadjemmibaaDoorEvT
/- Written by a program of this session (wip/tools/mkev.py): what the functions' places evaluate to. Not trusted: Lean checks it. -/
namespace Go.Proofs.YtaabfadjemmibaaDoor.E
open Go.Ev
theorem FnLosslessWord_eq (K : Nat) (x0 : ByteArray) (x1 : ByteArray) (x2 : ByteArray) (x3 : Bool) : FnLosslessWord (K + 1) x0 x1 x2 x3 =
  br (ltI 2147483647 (ByteArray.size x0 : Int))
  (FnLosslessWord_j0 K K x0 x1 x2 x3 true)
  (br (ltI 2147483647 (ByteArray.size x1 : Int))
   (FnLosslessWord_j0 K K x0 x1 x2 x3 true)
   (FnLosslessWord_j0 K K x0 x1 x2 x3 (ltI 2147483647 (ByteArray.size x2 : Int)))) := by kernel_rfl
theorem FnLosslessWord_j0_eq (K k : Nat) (x0 : ByteArray) (x1 : ByteArray) (x2 : ByteArray) (x3 : Bool) (x26 : Bool) : FnLosslessWord_j0 K (k + 1) x0 x1 x2 x3 x26 =
  br x26
  (some true)
  (FnLosslessWord_j1 K k x0 x1 x2 x3) := by kernel_rfl
theorem FnLosslessWord_j1_eq (K k : Nat) (x0 : ByteArray) (x1 : ByteArray) (x2 : ByteArray) (x3 : Bool) : FnLosslessWord_j1 K (k + 1) x0 x1 x2 x3 =
  FnLosslessWord_l0 K k x0 x1 x2 x3 [x0, x1, x2] (List.length [x0, x1, x2] : Int) 0 := by kernel_rfl
theorem FnLosslessWord_l0_eq (K k : Nat) (x0 : ByteArray) (x1 : ByteArray) (x2 : ByteArray) (x3 : Bool) (x30 : List ByteArray) (x31 : Int) (x32 : Int) : FnLosslessWord_l0 K (k + 1) x0 x1 x2 x3 x30 x31 x32 =
  br (ltI x32 x31)
  (FnLosslessWord_j2 K k x0 x1 x2 x3 x30 x31 x32)
  (FnLosslessWord_j3 K k x0 x1 x2 x3) := by kernel_rfl
theorem FnLosslessWord_j2_eq (K k : Nat) (x0 : ByteArray) (x1 : ByteArray) (x2 : ByteArray) (x3 : Bool) (x30 : List ByteArray) (x31 : Int) (x32 : Int) : FnLosslessWord_j2 K (k + 1) x0 x1 x2 x3 x30 x31 x32 =
  chk (leI 0 x32) (chk (ltI x32 (List.length x30 : Int)) (Option.bind (cleanWord K (nth .str x30 x32)) fun t1 =>
  br (!t1)
  (Option.bind (cleanAwake K) fun t2 =>
   some t2)
  (FnLosslessWord_l0 K k x0 x1 x2 x3 x30 x31 (IntKind.i64.wrap (x32 + 1))))) := by kernel_rfl
theorem FnLosslessWord_j3_eq (K k : Nat) (x0 : ByteArray) (x1 : ByteArray) (x2 : ByteArray) (x3 : Bool) : FnLosslessWord_j3 K (k + 1) x0 x1 x2 x3 =
  chk (leI 0 (IntKind.i64.wrap ((ByteArray.size x0 : Int) - 1))) (chk (ltI (IntKind.i64.wrap ((ByteArray.size x0 : Int) - 1)) (ByteArray.size x0 : Int)) (chk (leI 0 (IntKind.i64.wrap ((ByteArray.size x1 : Int) - 1))) (chk (ltI (IntKind.i64.wrap ((ByteArray.size x1 : Int) - 1)) (ByteArray.size x1 : Int)) (br (eqI (bt x0 (IntKind.i64.wrap ((ByteArray.size x0 : Int) - 1))) (bt x1 (IntKind.i64.wrap ((ByteArray.size x1 : Int) - 1))))
  (FnLosslessWord_j4 K k x0 x1 x2 x3 true)
  (chk (leI 0 0) (chk (ltI 0 (ByteArray.size x1 : Int)) (chk (leI 0 0) (chk (ltI 0 (ByteArray.size x2 : Int)) (FnLosslessWord_j4 K k x0 x1 x2 x3 (eqI (bt x1 0) (bt x2 0))))))))))) := by kernel_rfl
theorem FnLosslessWord_j4_eq (K k : Nat) (x0 : ByteArray) (x1 : ByteArray) (x2 : ByteArray) (x3 : Bool) (x58 : Bool) : FnLosslessWord_j4 K (k + 1) x0 x1 x2 x3 x58 =
  br x58
  (Option.bind (cleanAwake K) fun t3 =>
   some t3)
  (FnLosslessWord_j5 K k x0 x1 x2 x3) := by kernel_rfl
theorem FnLosslessWord_j5_eq (K k : Nat) (x0 : ByteArray) (x1 : ByteArray) (x2 : ByteArray) (x3 : Bool) : FnLosslessWord_j5 K (k + 1) x0 x1 x2 x3 =
  br x3
  (FnLosslessWord_j6 K k x0 x1 x2 1)
  (FnLosslessWord_j6 K k x0 x1 x2 (-1)) := by kernel_rfl
theorem FnLosslessWord_j6_eq (K k : Nat) (x0 : ByteArray) (x1 : ByteArray) (x2 : ByteArray) (x11 : Int) : FnLosslessWord_j6 K (k + 1) x0 x1 x2 x11 =
  chk (nleI (ByteArray.size (⟨#[32]⟩ : ByteArray) + ByteArray.size x1) 9223372036854775807) (chk (nleI (ByteArray.size (⟨#[32]⟩ : ByteArray) + ByteArray.size x2) 9223372036854775807) (Option.bind (CleanLossless K [(0, x0), (x11, (ByteArray.append (⟨#[32]⟩ : ByteArray) x1)), (0, (ByteArray.append (⟨#[32]⟩ : ByteArray) x2))]) fun t4 =>
  chk (nleI (ByteArray.size x0 + ByteArray.size (⟨#[32]⟩ : ByteArray)) 9223372036854775807) (chk (nleI (ByteArray.size x1 + ByteArray.size (⟨#[32]⟩ : ByteArray)) 9223372036854775807) (Option.bind (CleanLossless K [(0, (ByteArray.append x0 (⟨#[32]⟩ : ByteArray))), (x11, (ByteArray.append x1 (⟨#[32]⟩ : ByteArray))), (0, x2)]) fun t5 =>
  Option.bind (cleanAwake K) fun t6 =>
  br t6
  (Option.bind (cleanOf K t4) fun t7 =>
   Option.bind (cleanOf K t5) fun t8 =>
   Option.bind (CleanSame K t7 t8) fun t9 =>
   some t9)
  (some false))))) := by kernel_rfl
theorem FnMergeAgain_eq (K : Nat) (x0 : List TS0.den) : FnMergeAgain (K + 1) x0 =
  Option.bind (zzFits3 K x0) fun t1 =>
  br (!t1)
  (some true)
  (FnMergeAgain_j0 K K x0) := by kernel_rfl
theorem FnMergeAgain_j0_eq (K k : Nat) (x0 : List TS0.den) : FnMergeAgain_j0 K (k + 1) x0 =
  Option.bind (cleanFew K x0) fun t2 =>
  br (!t2)
  (Option.bind (cleanAwake K) fun t3 =>
   some t3)
  (FnMergeAgain_j1 K k x0) := by kernel_rfl
theorem FnMergeAgain_j1_eq (K k : Nat) (x0 : List TS0.den) : FnMergeAgain_j1 K (k + 1) x0 =
  Option.bind (cleanOwn K x0) fun t4 =>
  Option.bind (CleanMerge K t4) fun t5 =>
  Option.bind (cleanOwn K t5) fun t6 =>
  Option.bind (CleanMerge K t6) fun t7 =>
  Option.bind (cleanAwake K) fun t8 =>
  br t8
  (Option.bind (cleanOf K t5) fun t9 =>
   Option.bind (cleanOf K t7) fun t10 =>
   Option.bind (CleanSame K t9 t10) fun t11 =>
   some t11)
  (some false) := by kernel_rfl
theorem FnMergeForm_eq (K : Nat) (x0 : List TS0.den) : FnMergeForm (K + 1) x0 =
  Option.bind (zzFits3 K x0) fun t1 =>
  br (!t1)
  (some true)
  (FnMergeForm_j0 K K x0) := by kernel_rfl
theorem FnMergeForm_j0_eq (K k : Nat) (x0 : List TS0.den) : FnMergeForm_j0 K (k + 1) x0 =
  Option.bind (cleanFew K x0) fun t2 =>
  br (!t2)
  (Option.bind (cleanAwake K) fun t3 =>
   some t3)
  (FnMergeForm_j1 K k x0) := by kernel_rfl
theorem FnMergeForm_j1_eq (K k : Nat) (x0 : List TS0.den) : FnMergeForm_j1 K (k + 1) x0 =
  Option.bind (cleanOwn K x0) fun t4 =>
  Option.bind (CleanMerge K t4) fun t5 =>
  Option.bind (cleanOf K t5) fun t6 =>
  FnMergeForm_l0 K k t6 (List.length t6 : Int) 0 := by kernel_rfl
theorem FnMergeForm_l0_eq (K k : Nat) (x3 : List TS0.den) (x18 : Int) (x19 : Int) : FnMergeForm_l0 K (k + 1) x3 x18 x19 =
  br (ltI x19 x18)
  (FnMergeForm_j2 K k x3 x18 x19)
  (FnMergeForm_j3 K k x3) := by kernel_rfl
theorem FnMergeForm_j2_eq (K k : Nat) (x3 : List TS0.den) (x18 : Int) (x19 : Int) : FnMergeForm_j2 K (k + 1) x3 x18 x19 =
  chk (leI 0 x19) (chk (ltI x19 (List.length x3 : Int)) (br (eqS ((nth TS0 x3 x19).2) (⟨#[]⟩ : ByteArray))
  (Option.bind (cleanAwake K) fun t7 =>
   some t7)
  (FnMergeForm_l0 K k x3 x18 (IntKind.i64.wrap (x19 + 1))))) := by kernel_rfl
theorem FnMergeForm_j3_eq (K k : Nat) (x3 : List TS0.den) : FnMergeForm_j3 K (k + 1) x3 =
  Option.bind (cleanAwake K) fun t8 =>
  br t8
  (Option.bind (CleanMerged K x3) fun t9 =>
   some t9)
  (some false) := by kernel_rfl
theorem FnMergeKeeps_eq (K : Nat) (x0 : List TS0.den) : FnMergeKeeps (K + 1) x0 =
  Option.bind (zzFits3 K x0) fun t1 =>
  br (!t1)
  (some true)
  (FnMergeKeeps_j0 K K x0) := by kernel_rfl
theorem FnMergeKeeps_j0_eq (K k : Nat) (x0 : List TS0.den) : FnMergeKeeps_j0 K (k + 1) x0 =
  Option.bind (cleanFew K x0) fun t2 =>
  br (!t2)
  (Option.bind (cleanAwake K) fun t3 =>
   some t3)
  (FnMergeKeeps_j1 K k x0) := by kernel_rfl
theorem FnMergeKeeps_j1_eq (K k : Nat) (x0 : List TS0.den) : FnMergeKeeps_j1 K (k + 1) x0 =
  Option.bind (cleanAwake K) fun t4 =>
  br t4
  (Option.bind (cleanOf K x0) fun t5 =>
   Option.bind (cleanOwn K x0) fun t6 =>
   Option.bind (CleanMerge K t6) fun t7 =>
   Option.bind (cleanOf K t7) fun t8 =>
   Option.bind (CleanKept K t5 t8) fun t9 =>
   some t9)
  (some false) := by kernel_rfl
theorem FnMergeLess_eq (K : Nat) (x0 : List TS0.den) : FnMergeLess (K + 1) x0 =
  Option.bind (zzFits3 K x0) fun t1 =>
  br (!t1)
  (some true)
  (FnMergeLess_j0 K K x0) := by kernel_rfl
theorem FnMergeLess_j0_eq (K k : Nat) (x0 : List TS0.den) : FnMergeLess_j0 K (k + 1) x0 =
  Option.bind (cleanFew K x0) fun t2 =>
  br (!t2)
  (Option.bind (cleanAwake K) fun t3 =>
   some t3)
  (FnMergeLess_j1 K k x0) := by kernel_rfl
theorem FnMergeLess_j1_eq (K k : Nat) (x0 : List TS0.den) : FnMergeLess_j1 K (k + 1) x0 =
  Option.bind (cleanOf K x0) fun t4 =>
  Option.bind (CleanEdits K t4) fun t5 =>
  Option.bind (cleanOwn K x0) fun t6 =>
  Option.bind (CleanMerge K t6) fun t7 =>
  Option.bind (cleanOf K t7) fun t8 =>
  Option.bind (CleanEdits K t8) fun t9 =>
  Option.bind (cleanAwake K) fun t10 =>
  br t10
  (some (leI t9.2 t5.2))
  (some false) := by kernel_rfl
theorem FnMergeOrder_eq (K : Nat) (x0 : List TS0.den) : FnMergeOrder (K + 1) x0 =
  Option.bind (zzFits3 K x0) fun t1 =>
  br (!t1)
  (some true)
  (FnMergeOrder_j0 K K x0) := by kernel_rfl
theorem FnMergeOrder_j0_eq (K k : Nat) (x0 : List TS0.den) : FnMergeOrder_j0 K (k + 1) x0 =
  Option.bind (cleanFew K x0) fun t2 =>
  br (!t2)
  (Option.bind (cleanAwake K) fun t3 =>
   some t3)
  (FnMergeOrder_j1 K k x0) := by kernel_rfl
theorem FnMergeOrder_j1_eq (K k : Nat) (x0 : List TS0.den) : FnMergeOrder_j1 K (k + 1) x0 =
  FnMergeOrder_l0 K k x0 [] 0 := by kernel_rfl
theorem FnMergeOrder_l0_eq (K k : Nat) (x0 : List TS0.den) (x3 : List TS0.den) (x4 : Int) : FnMergeOrder_l0 K (k + 1) x0 x3 x4 =
  br (ltI x4 (List.length x0 : Int))
  (FnMergeOrder_j2 K k x0 x3 x4)
  (FnMergeOrder_j3 K k x0 x3) := by kernel_rfl
theorem FnMergeOrder_j2_eq (K k : Nat) (x0 : List TS0.den) (x3 : List TS0.den) (x4 : Int) : FnMergeOrder_j2 K (k + 1) x0 x3 x4 =
  FnMergeOrder_l1 K k x0 x3 x4 x4 := by kernel_rfl
theorem FnMergeOrder_j3_eq (K k : Nat) (x0 : List TS0.den) (x3 : List TS0.den) : FnMergeOrder_j3 K (k + 1) x0 x3 =
  Option.bind (cleanAwake K) fun t4 =>
  br t4
  (Option.bind (cleanOwn K x0) fun t5 =>
   Option.bind (CleanMerge K t5) fun t6 =>
   Option.bind (cleanOf K t6) fun t7 =>
   Option.bind (CleanMerge K x3) fun t8 =>
   Option.bind (cleanOf K t8) fun t9 =>
   Option.bind (CleanSame K t7 t9) fun t10 =>
   some t10)
  (some false) := by kernel_rfl
theorem FnMergeOrder_l1_eq (K k : Nat) (x0 : List TS0.den) (x3 : List TS0.den) (x4 : Int) (x5 : Int) : FnMergeOrder_l1 K (k + 1) x0 x3 x4 x5 =
  br (ltI x5 (List.length x0 : Int))
  (chk (leI 0 x5) (chk (ltI x5 (List.length x0 : Int)) (br (!eqI ((nth TS0 x0 x5).1) 0)
   (FnMergeOrder_j4 K k x0 x3 x4 x5)
   (FnMergeOrder_j5 K k x0 x3 x4 x5))))
  (FnMergeOrder_j5 K k x0 x3 x4 x5) := by kernel_rfl
theorem FnMergeOrder_j4_eq (K k : Nat) (x0 : List TS0.den) (x3 : List TS0.den) (x4 : Int) (x5 : Int) : FnMergeOrder_j4 K (k + 1) x0 x3 x4 x5 =
  FnMergeOrder_l1 K k x0 x3 x4 (IntKind.i64.wrap (x5 + 1)) := by kernel_rfl
theorem FnMergeOrder_j5_eq (K k : Nat) (x0 : List TS0.den) (x3 : List TS0.den) (x4 : Int) (x5 : Int) : FnMergeOrder_j5 K (k + 1) x0 x3 x4 x5 =
  FnMergeOrder_l2 K k x0 x3 x4 x5 [1, (-1)] (List.length [1, (-1)] : Int) 0 := by kernel_rfl
theorem FnMergeOrder_l2_eq (K k : Nat) (x0 : List TS0.den) (x3 : List TS0.den) (x4 : Int) (x5 : Int) (x36 : List Int) (x37 : Int) (x38 : Int) : FnMergeOrder_l2 K (k + 1) x0 x3 x4 x5 x36 x37 x38 =
  br (ltI x38 x37)
  (FnMergeOrder_j6 K k x0 x3 x4 x5 x36 x37 x38)
  (FnMergeOrder_j7 K k x0 x3 x5) := by kernel_rfl
theorem FnMergeOrder_j6_eq (K k : Nat) (x0 : List TS0.den) (x3 : List TS0.den) (x4 : Int) (x5 : Int) (x36 : List Int) (x37 : Int) (x38 : Int) : FnMergeOrder_j6 K (k + 1) x0 x3 x4 x5 x36 x37 x38 =
  chk (leI 0 x38) (chk (ltI x38 (List.length x36 : Int)) (chk (leI 0 x4) (chk (leI x4 x5) (chk (leI x5 (List.length x0 : Int)) (FnMergeOrder_l3 K k x0 x3 x4 x5 (nth (.int .i64) x36 x38) x36 x37 x38 x4 x5 (x5 - x4) 0))))) := by kernel_rfl
theorem FnMergeOrder_j7_eq (K k : Nat) (x0 : List TS0.den) (x3 : List TS0.den) (x5 : Int) : FnMergeOrder_j7 K (k + 1) x0 x3 x5 =
  br (ltI x5 (List.length x0 : Int))
  (chk (leI 0 x5) (chk (ltI x5 (List.length x0 : Int)) (chk (ltI ((List.length x3 : Int) + (List.length [(nth TS0 x0 x5)] : Int)) 1000000000000) (FnMergeOrder_l0 K k x0 (x3 ++ [(nth TS0 x0 x5)]) (IntKind.i64.wrap (x5 + 1))))))
  (FnMergeOrder_l0 K k x0 x3 (IntKind.i64.wrap (x5 + 1))) := by kernel_rfl
theorem FnMergeOrder_l3_eq (K k : Nat) (x0 : List TS0.den) (x3 : List TS0.den) (x4 : Int) (x5 : Int) (x7 : Int) (x36 : List Int) (x37 : Int) (x38 : Int) (a45 : Int) (b45 : Int) (x46 : Int) (x47 : Int) : FnMergeOrder_l3 K (k + 1) x0 x3 x4 x5 x7 x36 x37 x38 a45 b45 x46 x47 =
  br (ltI x47 x46)
  (FnMergeOrder_j8 K k x0 x3 x4 x5 x7 x36 x37 x38 a45 b45 x46 x47)
  (FnMergeOrder_l2 K k x0 x3 x4 x5 x36 x37 (IntKind.i64.wrap (x38 + 1))) := by kernel_rfl
theorem FnMergeOrder_j8_eq (K k : Nat) (x0 : List TS0.den) (x3 : List TS0.den) (x4 : Int) (x5 : Int) (x7 : Int) (x36 : List Int) (x37 : Int) (x38 : Int) (a45 : Int) (b45 : Int) (x46 : Int) (x47 : Int) : FnMergeOrder_j8 K (k + 1) x0 x3 x4 x5 x7 x36 x37 x38 a45 b45 x46 x47 =
  chk (leI 0 x47) (chk (ltI x47 (b45 - a45)) (br (eqI ((nth TS0 x0 (a45 + x47)).1) x7)
  (chk (ltI ((List.length x3 : Int) + (List.length [(nth TS0 x0 (a45 + x47))] : Int)) 1000000000000) (FnMergeOrder_l3 K k x0 (x3 ++ [(nth TS0 x0 (a45 + x47))]) x4 x5 x7 x36 x37 x38 a45 b45 x46 (IntKind.i64.wrap (x47 + 1))))
  (FnMergeOrder_l3 K k x0 x3 x4 x5 x7 x36 x37 x38 a45 b45 x46 (IntKind.i64.wrap (x47 + 1))))) := by kernel_rfl
theorem FnSemanticKeeps_eq (K : Nat) (x0 : List TS0.den) : FnSemanticKeeps (K + 1) x0 =
  Option.bind (zzFits3 K x0) fun t1 =>
  br (!t1)
  (some true)
  (FnSemanticKeeps_j0 K K x0) := by kernel_rfl
theorem FnSemanticKeeps_j0_eq (K k : Nat) (x0 : List TS0.den) : FnSemanticKeeps_j0 K (k + 1) x0 =
  Option.bind (cleanASCII K x0) fun t2 =>
  br (!t2)
  (Option.bind (cleanAwake K) fun t3 =>
   some t3)
  (FnSemanticKeeps_j1 K k x0) := by kernel_rfl
theorem FnSemanticKeeps_j1_eq (K k : Nat) (x0 : List TS0.den) : FnSemanticKeeps_j1 K (k + 1) x0 =
  Option.bind (cleanAwake K) fun t4 =>
  br t4
  (Option.bind (cleanOf K x0) fun t5 =>
   Option.bind (cleanOwn K x0) fun t6 =>
   Option.bind (CleanSemantic K t6) fun t7 =>
   Option.bind (cleanOf K t7) fun t8 =>
   Option.bind (CleanKept K t5 t8) fun t9 =>
   some t9)
  (some false) := by kernel_rfl
theorem FnSemanticFewer_eq (K : Nat) (x0 : List TS0.den) : FnSemanticFewer (K + 1) x0 =
  Option.bind (zzFits3 K x0) fun t1 =>
  br (!t1)
  (some true)
  (FnSemanticFewer_j0 K K x0) := by kernel_rfl
theorem FnSemanticFewer_j0_eq (K k : Nat) (x0 : List TS0.den) : FnSemanticFewer_j0 K (k + 1) x0 =
  Option.bind (cleanASCII K x0) fun t2 =>
  br (!t2)
  (Option.bind (cleanAwake K) fun t3 =>
   some t3)
  (FnSemanticFewer_j1 K k x0) := by kernel_rfl
theorem FnSemanticFewer_j1_eq (K k : Nat) (x0 : List TS0.den) : FnSemanticFewer_j1 K (k + 1) x0 =
  Option.bind (cleanOwn K x0) fun t4 =>
  Option.bind (CleanMerge K t4) fun t5 =>
  Option.bind (cleanOf K t5) fun t6 =>
  Option.bind (CleanEdits K t6) fun t7 =>
  Option.bind (cleanOwn K t5) fun t8 =>
  Option.bind (CleanSemantic K t8) fun t9 =>
  Option.bind (cleanOf K t9) fun t10 =>
  Option.bind (CleanEdits K t10) fun t11 =>
  Option.bind (cleanAwake K) fun t12 =>
  br t12
  (some (leI t11.1 t7.1))
  (some false) := by kernel_rfl
theorem FnSemanticOne_eq (K : Nat) (x0 : ByteArray) (x1 : ByteArray) (x2 : ByteArray) (x3 : Bool) : FnSemanticOne (K + 1) x0 x1 x2 x3 =
  br (ltI 2147483647 (ByteArray.size x0 : Int))
  (FnSemanticOne_j0 K K x0 x1 x2 x3 true)
  (br (ltI 2147483647 (ByteArray.size x1 : Int))
   (FnSemanticOne_j0 K K x0 x1 x2 x3 true)
   (FnSemanticOne_j0 K K x0 x1 x2 x3 (ltI 2147483647 (ByteArray.size x2 : Int)))) := by kernel_rfl
theorem FnSemanticOne_j0_eq (K k : Nat) (x0 : ByteArray) (x1 : ByteArray) (x2 : ByteArray) (x3 : Bool) (x24 : Bool) : FnSemanticOne_j0 K (k + 1) x0 x1 x2 x3 x24 =
  br x24
  (some true)
  (FnSemanticOne_j1 K k x0 x1 x2 x3) := by kernel_rfl
theorem FnSemanticOne_j1_eq (K k : Nat) (x0 : ByteArray) (x1 : ByteArray) (x2 : ByteArray) (x3 : Bool) : FnSemanticOne_j1 K (k + 1) x0 x1 x2 x3 =
  br x3
  (chk (leI 0 1) (chk (ltI 1 (List.length [(0, x0), ((-1), x1), (0, x2)] : Int)) (FnSemanticOne_j2 K k (List.set [(0, x0), ((-1), x1), (0, x2)] (Int.toNat 1) (1, (nth TS0 [(0, x0), ((-1), x1), (0, x2)] 1).2)))))
  (FnSemanticOne_j2 K k [(0, x0), ((-1), x1), (0, x2)]) := by kernel_rfl
theorem FnSemanticOne_j2_eq (K k : Nat) (x9 : List TS0.den) : FnSemanticOne_j2 K (k + 1) x9 =
  Option.bind (cleanASCII K x9) fun t1 =>
  br (!t1)
  (Option.bind (cleanAwake K) fun t2 =>
   some t2)
  (FnSemanticOne_j3 K k x9) := by kernel_rfl
theorem FnSemanticOne_j3_eq (K k : Nat) (x9 : List TS0.den) : FnSemanticOne_j3 K (k + 1) x9 =
  Option.bind (cleanOwn K x9) fun t3 =>
  Option.bind (CleanMerge K t3) fun t4 =>
  Option.bind (cleanOwn K t4) fun t5 =>
  Option.bind (CleanSemantic K t5) fun t6 =>
  Option.bind (cleanAwake K) fun t7 =>
  br t7
  (Option.bind (cleanOf K t4) fun t8 =>
   Option.bind (cleanOf K t6) fun t9 =>
   Option.bind (CleanShifted K t8 t9) fun t10 =>
   br t10
   (Option.bind (cleanOf K x9) fun t11 =>
    Option.bind (cleanOf K t6) fun t12 =>
    Option.bind (CleanKept K t11 t12) fun t13 =>
    some t13)
   (some false))
  (some false) := by kernel_rfl
theorem zzFits3_eq (K : Nat) (x0 : List TS0.den) : zzFits3 (K + 1) x0 =
  br (ltI 2147483647 (List.length x0 : Int))
  (some false)
  (zzFits3_j0 K K x0) := by kernel_rfl
theorem zzFits3_j0_eq (K k : Nat) (x0 : List TS0.den) : zzFits3_j0 K (k + 1) x0 =
  zzFits3_l0 K k x0 (List.length x0 : Int) 0 := by kernel_rfl
theorem zzFits3_l0_eq (K k : Nat) (x8 : List TS0.den) (x9 : Int) (x10 : Int) : zzFits3_l0 K (k + 1) x8 x9 x10 =
  br (ltI x10 x9)
  (zzFits3_j1 K k x8 x9 x10)
  (some true) := by kernel_rfl
theorem zzFits3_j1_eq (K k : Nat) (x8 : List TS0.den) (x9 : Int) (x10 : Int) : zzFits3_j1 K (k + 1) x8 x9 x10 =
  chk (leI 0 x10) (chk (ltI x10 (List.length x8 : Int)) (Option.bind (zzFits4 K (nth TS0 x8 x10)) fun t1 =>
  br (!t1)
  (some false)
  (zzFits3_l0 K k x8 x9 (IntKind.i64.wrap (x10 + 1))))) := by kernel_rfl
theorem cleanASCII_eq (K : Nat) (x0 : List TS0.den) : cleanASCII (K + 1) x0 =
  br (leI (List.length x0 : Int) 12)
  (Option.bind (cleanOf K x0) fun t1 =>
   Option.bind (CleanRight K t1 12 40 true) fun t2 =>
   some t2)
  (some false) := by kernel_rfl
theorem cleanAwake_eq (K : Nat) : cleanAwake (K + 1) =
  Option.bind (CleanLossless K [(0, (⟨#[84, 104, 101, 32, 99]⟩ : ByteArray)), (1, (⟨#[97, 116, 32, 99]⟩ : ByteArray)), (0, (⟨#[97, 109, 101, 46]⟩ : ByteArray))]) fun t1 =>
  br (eqI (List.length t1 : Int) 3)
  (chk (leI 0 0) (chk (ltI 0 (List.length t1 : Int)) (br (eqS ((nth TS0 t1 0).2) (⟨#[84, 104, 101, 32]⟩ : ByteArray))
   (chk (leI 0 1) (chk (ltI 1 (List.length t1 : Int)) (br ((eqI ((nth TS0 t1 1).1) 1) && (eqS ((nth TS0 t1 1).2) (⟨#[99, 97, 116, 32]⟩ : ByteArray)))
    (chk (leI 0 2) (chk (ltI 2 (List.length t1 : Int)) (some (eqS ((nth TS0 t1 2).2) (⟨#[99, 97, 109, 101, 46]⟩ : ByteArray)))))
    (some false))))
   (some false))))
  (some false) := by kernel_rfl
theorem CleanSame_eq (K : Nat) (x0 : List TS0.den) (x1 : List TS0.den) : CleanSame (K + 1) x0 x1 =
  br (!eqI (List.length x0 : Int) (List.length x1 : Int))
  (some false)
  (CleanSame_j0 K K x0 x1) := by kernel_rfl
theorem CleanSame_j0_eq (K k : Nat) (x0 : List TS0.den) (x1 : List TS0.den) : CleanSame_j0 K (k + 1) x0 x1 =
  CleanSame_l0 K k x0 x1 (List.length x0 : Int) 0 := by kernel_rfl
theorem CleanSame_l0_eq (K k : Nat) (x0 : List TS0.den) (x1 : List TS0.den) (x12 : Int) (x13 : Int) : CleanSame_l0 K (k + 1) x0 x1 x12 x13 =
  br (ltI x13 x12)
  (CleanSame_j1 K k x0 x1 x12 x13)
  (some true) := by kernel_rfl
theorem CleanSame_j1_eq (K k : Nat) (x0 : List TS0.den) (x1 : List TS0.den) (x12 : Int) (x13 : Int) : CleanSame_j1 K (k + 1) x0 x1 x12 x13 =
  chk (leI 0 x13) (chk (ltI x13 (List.length x0 : Int)) (chk (leI 0 x13) (chk (ltI x13 (List.length x1 : Int)) (br (!((eqI ((nth TS0 x0 x13).1) ((nth TS0 x1 x13).1)) && (eqS ((nth TS0 x0 x13).2) ((nth TS0 x1 x13).2))))
  (some false)
  (CleanSame_l0 K k x0 x1 x12 (IntKind.i64.wrap (x13 + 1))))))) := by kernel_rfl
theorem cleanOf_eq (K : Nat) (x0 : List TS0.den) : cleanOf (K + 1) x0 =
  cleanOf_l0 K K [] x0 (List.length x0 : Int) 0 := by kernel_rfl
theorem cleanOf_l0_eq (K k : Nat) (x3 : List TS0.den) (x6 : List TS0.den) (x7 : Int) (x8 : Int) : cleanOf_l0 K (k + 1) x3 x6 x7 x8 =
  br (ltI x8 x7)
  (cleanOf_j0 K k x3 x6 x7 x8)
  (some x3) := by kernel_rfl
theorem cleanOf_j0_eq (K k : Nat) (x3 : List TS0.den) (x6 : List TS0.den) (x7 : Int) (x8 : Int) : cleanOf_j0 K (k + 1) x3 x6 x7 x8 =
  chk (leI 0 x8) (chk (ltI x8 (List.length x6 : Int)) (chk (ltI ((List.length x3 : Int) + (List.length [(nth TS0 x6 x8)] : Int)) 1000000000000) (cleanOf_l0 K k (x3 ++ [(nth TS0 x6 x8)]) x6 x7 (IntKind.i64.wrap (x8 + 1))))) := by kernel_rfl
theorem CleanLossless_eq (K : Nat) (x0 : List TS0.den) : CleanLossless (K + 1) x0 =
  Option.bind (plain K) fun t1 =>
  Option.bind (diffs K x0) fun t2 =>
  Option.bind (DiffCleanupSemanticLossless K t1 t2) fun t3 =>
  Option.bind (back K t3) fun t4 =>
  some t4 := by kernel_rfl
theorem cleanOwn_eq (K : Nat) (x0 : List TS0.den) : cleanOwn (K + 1) x0 =
  chk (ltI (List.length x0 : Int) 1000000000000) (some x0) := by kernel_rfl
theorem CleanKept_eq (K : Nat) (x0 : List TS0.den) (x1 : List TS0.den) : CleanKept (K + 1) x0 x1 =
  Option.bind (CleanSide K x0 1) fun t1 =>
  Option.bind (CleanSide K x1 1) fun t2 =>
  br (eqS t1 t2)
  (Option.bind (CleanSide K x0 (-1)) fun t3 =>
   Option.bind (CleanSide K x1 (-1)) fun t4 =>
   some (eqS t3 t4))
  (some false) := by kernel_rfl
theorem CleanShifted_eq (K : Nat) (x0 : List TS0.den) (x1 : List TS0.den) : CleanShifted (K + 1) x0 x1 =
  CleanShifted_l0 K K x1 0 x0 (List.length x0 : Int) 0 := by kernel_rfl
theorem CleanShifted_l0_eq (K k : Nat) (x1 : List TS0.den) (x5 : Int) (x8 : List TS0.den) (x9 : Int) (x10 : Int) : CleanShifted_l0 K (k + 1) x1 x5 x8 x9 x10 =
  br (ltI x10 x9)
  (CleanShifted_j0 K k x1 x5 x8 x9 x10)
  (CleanShifted_l1 K k x1 x5) := by kernel_rfl
theorem CleanShifted_j0_eq (K k : Nat) (x1 : List TS0.den) (x5 : Int) (x8 : List TS0.den) (x9 : Int) (x10 : Int) : CleanShifted_j0 K (k + 1) x1 x5 x8 x9 x10 =
  chk (leI 0 x10) (chk (ltI x10 (List.length x8 : Int)) (br (eqI ((nth TS0 x8 x10).1) 0)
  (CleanShifted_l0 K k x1 x5 x8 x9 (IntKind.i64.wrap (x10 + 1)))
  (CleanShifted_l2 K k x1 x5 0 [(nth TS0 x8 x10)] x8 x9 x10))) := by kernel_rfl
theorem CleanShifted_l1_eq (K k : Nat) (x1 : List TS0.den) (x5 : Int) : CleanShifted_l1 K (k + 1) x1 x5 =
  br (ltI x5 (List.length x1 : Int))
  (chk (leI 0 x5) (chk (ltI x5 (List.length x1 : Int)) (br (eqI ((nth TS0 x1 x5).1) 0)
   (CleanShifted_j1 K k x1 x5)
   (CleanShifted_j2 K k x1 x5))))
  (CleanShifted_j2 K k x1 x5) := by kernel_rfl
theorem CleanShifted_l2_eq (K k : Nat) (x1 : List TS0.den) (x5 : Int) (i7 : Int) (x7 : List TS0.den) (x8 : List TS0.den) (x9 : Int) (x10 : Int) : CleanShifted_l2 K (k + 1) x1 x5 i7 x7 x8 x9 x10 =
  br (ltI x5 (List.length x1 : Int))
  (chk (leI 0 x5) (chk (ltI x5 (List.length x1 : Int)) (br (eqI ((nth TS0 x1 x5).1) 0)
   (CleanShifted_j3 K k x1 x5 i7 x7 x8 x9 x10)
   (CleanShifted_j4 K k x1 x5 i7 x7 x8 x9 x10))))
  (CleanShifted_j4 K k x1 x5 i7 x7 x8 x9 x10) := by kernel_rfl
theorem CleanShifted_j1_eq (K k : Nat) (x1 : List TS0.den) (x5 : Int) : CleanShifted_j1 K (k + 1) x1 x5 =
  CleanShifted_l1 K k x1 (IntKind.i64.wrap (x5 + 1)) := by kernel_rfl
theorem CleanShifted_j2_eq (K k : Nat) (x1 : List TS0.den) (x5 : Int) : CleanShifted_j2 K (k + 1) x1 x5 =
  some (eqI x5 (List.length x1 : Int)) := by kernel_rfl
theorem CleanShifted_j3_eq (K k : Nat) (x1 : List TS0.den) (x5 : Int) (i7 : Int) (x7 : List TS0.den) (x8 : List TS0.den) (x9 : Int) (x10 : Int) : CleanShifted_j3 K (k + 1) x1 x5 i7 x7 x8 x9 x10 =
  CleanShifted_l2 K k x1 (IntKind.i64.wrap (x5 + 1)) i7 x7 x8 x9 x10 := by kernel_rfl
theorem CleanShifted_j4_eq (K k : Nat) (x1 : List TS0.den) (x5 : Int) (i7 : Int) (x7 : List TS0.den) (x8 : List TS0.den) (x9 : Int) (x10 : Int) : CleanShifted_j4 K (k + 1) x1 x5 i7 x7 x8 x9 x10 =
  br (eqI x5 (List.length x1 : Int))
  (CleanShifted_j5 K k x1 x5 x8 x9 x10 true)
  (chk (leI 0 x5) (chk (ltI x5 (List.length x1 : Int)) (br (!eqI ((nth TS0 x1 x5).1) ((nth TS0 x7 i7).1))
   (CleanShifted_j5 K k x1 x5 x8 x9 x10 true)
   (chk (leI 0 x5) (chk (ltI x5 (List.length x1 : Int)) (CleanShifted_j5 K k x1 x5 x8 x9 x10 (!eqI (ByteArray.size ((nth TS0 x1 x5).2) : Int) (ByteArray.size ((nth TS0 x7 i7).2) : Int)))))))) := by kernel_rfl
theorem CleanShifted_j5_eq (K k : Nat) (x1 : List TS0.den) (x5 : Int) (x8 : List TS0.den) (x9 : Int) (x10 : Int) (x56 : Bool) : CleanShifted_j5 K (k + 1) x1 x5 x8 x9 x10 x56 =
  br x56
  (some false)
  (CleanShifted_l0 K k x1 (IntKind.i64.wrap (x5 + 1)) x8 x9 (IntKind.i64.wrap (x10 + 1))) := by kernel_rfl
theorem cleanWord_eq (K : Nat) (x0 : ByteArray) : cleanWord (K + 1) x0 =
  cleanWord_l0 K K x0 0 := by kernel_rfl
theorem cleanWord_l0_eq (K k : Nat) (x0 : ByteArray) (x3 : Int) : cleanWord_l0 K (k + 1) x0 x3 =
  br (ltI x3 (ByteArray.size x0 : Int))
  (br (ltI x3 13)
   (cleanWord_j0 K k x0 x3)
   (cleanWord_j1 K k x0))
  (cleanWord_j1 K k x0) := by kernel_rfl
theorem cleanWord_j0_eq (K k : Nat) (x0 : ByteArray) (x3 : Int) : cleanWord_j0 K (k + 1) x0 x3 =
  chk (leI 0 x3) (chk (ltI x3 (ByteArray.size x0 : Int)) (br (ltI (bt x0 x3) 97)
  (cleanWord_j2 K k x0 x3 true)
  (chk (leI 0 x3) (chk (ltI x3 (ByteArray.size x0 : Int)) (cleanWord_j2 K k x0 x3 (ltI 122 (bt x0 x3))))))) := by kernel_rfl
theorem cleanWord_j1_eq (K k : Nat) (x0 : ByteArray) : cleanWord_j1 K (k + 1) x0 =
  br (ltI 0 (ByteArray.size x0 : Int))
  (some (leI (ByteArray.size x0 : Int) 12))
  (some false) := by kernel_rfl
theorem cleanWord_j2_eq (K k : Nat) (x0 : ByteArray) (x3 : Int) (x23 : Bool) : cleanWord_j2 K (k + 1) x0 x3 x23 =
  br x23
  (some false)
  (cleanWord_l0 K k x0 (IntKind.i64.wrap (x3 + 1))) := by kernel_rfl
theorem cleanFew_eq (K : Nat) (x0 : List TS0.den) : cleanFew (K + 1) x0 =
  br (leI (List.length x0 : Int) 12)
  (Option.bind (cleanOf K x0) fun t1 =>
   Option.bind (CleanRight K t1 12 40 false) fun t2 =>
   some t2)
  (some false) := by kernel_rfl
theorem CleanMerge_eq (K : Nat) (x0 : List TS0.den) : CleanMerge (K + 1) x0 =
  Option.bind (plain K) fun t1 =>
  Option.bind (diffs K x0) fun t2 =>
  Option.bind (DiffCleanupMerge K t1 t2) fun t3 =>
  Option.bind (back K t3) fun t4 =>
  some t4 := by kernel_rfl
theorem CleanMerged_eq (K : Nat) (x0 : List TS0.den) : CleanMerged (K + 1) x0 =
  CleanMerged_l0 K K x0 (List.length x0 : Int) 0 := by kernel_rfl
theorem CleanMerged_l0_eq (K k : Nat) (x0 : List TS0.den) (x9 : Int) (x10 : Int) : CleanMerged_l0 K (k + 1) x0 x9 x10 =
  br (ltI x10 x9)
  (CleanMerged_j0 K k x0 x9 x10)
  (some true) := by kernel_rfl
theorem CleanMerged_j0_eq (K k : Nat) (x0 : List TS0.den) (x9 : Int) (x10 : Int) : CleanMerged_j0 K (k + 1) x0 x9 x10 =
  chk (leI 0 x10) (chk (ltI x10 (List.length x0 : Int)) (br (eqS ((nth TS0 x0 x10).2) (⟨#[]⟩ : ByteArray))
  (some false)
  (CleanMerged_j1 K k x0 x10 0 [(nth TS0 x0 x10)] x9 x10))) := by kernel_rfl
theorem CleanMerged_j1_eq (K k : Nat) (x0 : List TS0.den) (x3 : Int) (i4 : Int) (x4 : List TS0.den) (x9 : Int) (x10 : Int) : CleanMerged_j1 K (k + 1) x0 x3 i4 x4 x9 x10 =
  br (eqI x3 0)
  (CleanMerged_l0 K k x0 x9 (IntKind.i64.wrap (x10 + 1)))
  (CleanMerged_j2 K k x0 x3 i4 x4 x9 x10) := by kernel_rfl
theorem CleanMerged_j2_eq (K k : Nat) (x0 : List TS0.den) (x3 : Int) (i4 : Int) (x4 : List TS0.den) (x9 : Int) (x10 : Int) : CleanMerged_j2 K (k + 1) x0 x3 i4 x4 x9 x10 =
  chk (leI 0 (IntKind.i64.wrap (x3 - 1))) (chk (ltI (IntKind.i64.wrap (x3 - 1)) (List.length x0 : Int)) (br (eqI ((nth TS0 x0 (IntKind.i64.wrap (x3 - 1))).1) ((nth TS0 x4 i4).1))
  (CleanMerged_j3 K k x0 x3 i4 x4 0 [(nth TS0 x0 (IntKind.i64.wrap (x3 - 1)))] x9 x10 true)
  (br (eqI ((nth TS0 x0 (IntKind.i64.wrap (x3 - 1))).1) 1)
   (CleanMerged_j3 K k x0 x3 i4 x4 0 [(nth TS0 x0 (IntKind.i64.wrap (x3 - 1)))] x9 x10 (eqI ((nth TS0 x4 i4).1) (-1)))
   (CleanMerged_j3 K k x0 x3 i4 x4 0 [(nth TS0 x0 (IntKind.i64.wrap (x3 - 1)))] x9 x10 false)))) := by kernel_rfl
theorem CleanMerged_j3_eq (K k : Nat) (x0 : List TS0.den) (x3 : Int) (i4 : Int) (x4 : List TS0.den) (i5 : Int) (x5 : List TS0.den) (x9 : Int) (x10 : Int) (x39 : Bool) : CleanMerged_j3 K (k + 1) x0 x3 i4 x4 i5 x5 x9 x10 x39 =
  br x39
  (some false)
  (CleanMerged_j4 K k x0 x3 i4 x4 i5 x5 x9 x10) := by kernel_rfl
theorem CleanMerged_j4_eq (K k : Nat) (x0 : List TS0.den) (x3 : Int) (i4 : Int) (x4 : List TS0.den) (i5 : Int) (x5 : List TS0.den) (x9 : Int) (x10 : Int) : CleanMerged_j4 K (k + 1) x0 x3 i4 x4 i5 x5 x9 x10 =
  br (eqI ((nth TS0 x5 i5).1) (-1))
  (CleanMerged_j5 K k x0 x3 i4 x4 i5 x5 x9 x10 (eqI ((nth TS0 x4 i4).1) 1))
  (CleanMerged_j5 K k x0 x3 i4 x4 i5 x5 x9 x10 false) := by kernel_rfl
theorem CleanMerged_j5_eq (K k : Nat) (x0 : List TS0.den) (x3 : Int) (i4 : Int) (x4 : List TS0.den) (i5 : Int) (x5 : List TS0.den) (x9 : Int) (x10 : Int) (x47 : Bool) : CleanMerged_j5 K (k + 1) x0 x3 i4 x4 i5 x5 x9 x10 x47 =
  br x47
  (chk (nleI (List.length (runesI ((nth TS0 x5 i5).2))) 70368744177664) (chk (nleI (List.length (runesI ((nth TS0 x4 i4).2))) 70368744177664) (chk (leI 0 0) (chk (ltI 0 (List.length (runesI ((nth TS0 x5 i5).2)) : Int)) (chk (leI 0 0) (chk (ltI 0 (List.length (runesI ((nth TS0 x4 i4).2)) : Int)) (br (eqI (nth (.int .i32) (runesI ((nth TS0 x5 i5).2)) 0) (nth (.int .i32) (runesI ((nth TS0 x4 i4).2)) 0))
   (CleanMerged_j6 K k x0 x3 i4 x4 i5 x5 x9 x10 true)
   (chk (leI 0 (IntKind.i64.wrap ((List.length (runesI ((nth TS0 x5 i5).2)) : Int) - 1))) (chk (ltI (IntKind.i64.wrap ((List.length (runesI ((nth TS0 x5 i5).2)) : Int) - 1)) (List.length (runesI ((nth TS0 x5 i5).2)) : Int)) (chk (leI 0 (IntKind.i64.wrap ((List.length (runesI ((nth TS0 x4 i4).2)) : Int) - 1))) (chk (ltI (IntKind.i64.wrap ((List.length (runesI ((nth TS0 x4 i4).2)) : Int) - 1)) (List.length (runesI ((nth TS0 x4 i4).2)) : Int)) (CleanMerged_j6 K k x0 x3 i4 x4 i5 x5 x9 x10 (eqI (nth (.int .i32) (runesI ((nth TS0 x5 i5).2)) (IntKind.i64.wrap ((List.length (runesI ((nth TS0 x5 i5).2)) : Int) - 1))) (nth (.int .i32) (runesI ((nth TS0 x4 i4).2)) (IntKind.i64.wrap ((List.length (runesI ((nth TS0 x4 i4).2)) : Int) - 1))))))))))))))))
  (CleanMerged_j7 K k x0 x3 i4 x4 i5 x5 x9 x10) := by kernel_rfl
theorem CleanMerged_j6_eq (K k : Nat) (x0 : List TS0.den) (x3 : Int) (i4 : Int) (x4 : List TS0.den) (i5 : Int) (x5 : List TS0.den) (x9 : Int) (x10 : Int) (x75 : Bool) : CleanMerged_j6 K (k + 1) x0 x3 i4 x4 i5 x5 x9 x10 x75 =
  br x75
  (some false)
  (CleanMerged_j7 K k x0 x3 i4 x4 i5 x5 x9 x10) := by kernel_rfl
theorem CleanMerged_j7_eq (K k : Nat) (x0 : List TS0.den) (x3 : Int) (i4 : Int) (x4 : List TS0.den) (i5 : Int) (x5 : List TS0.den) (x9 : Int) (x10 : Int) : CleanMerged_j7 K (k + 1) x0 x3 i4 x4 i5 x5 x9 x10 =
  br (ltI 1 x3)
  (chk (leI 0 (IntKind.i64.wrap (x3 - 2))) (chk (ltI (IntKind.i64.wrap (x3 - 2)) (List.length x0 : Int)) (br (eqI ((nth TS0 x0 (IntKind.i64.wrap (x3 - 2))).1) 0)
   (br (!eqI ((nth TS0 x5 i5).1) 0)
    (br (eqI ((nth TS0 x4 i4).1) 0)
     (chk (leI 0 (IntKind.i64.wrap (x3 - 2))) (chk (ltI (IntKind.i64.wrap (x3 - 2)) (List.length x0 : Int)) (Option.bind (cleanEnds K ((nth TS0 x5 i5).2) ((nth TS0 x0 (IntKind.i64.wrap (x3 - 2))).2)) fun t1 =>
      br t1
      (CleanMerged_j8 K k x0 x9 x10 true)
      (Option.bind (cleanBegins K ((nth TS0 x5 i5).2) ((nth TS0 x4 i4).2)) fun t2 =>
       CleanMerged_j8 K k x0 x9 x10 t2))))
     (CleanMerged_j8 K k x0 x9 x10 false))
    (CleanMerged_j8 K k x0 x9 x10 false))
   (CleanMerged_j8 K k x0 x9 x10 false))))
  (CleanMerged_j8 K k x0 x9 x10 false) := by kernel_rfl
theorem CleanMerged_j8_eq (K k : Nat) (x0 : List TS0.den) (x9 : Int) (x10 : Int) (x114 : Bool) : CleanMerged_j8 K (k + 1) x0 x9 x10 x114 =
  br x114
  (some false)
  (CleanMerged_l0 K k x0 x9 (IntKind.i64.wrap (x10 + 1))) := by kernel_rfl
theorem CleanEdits_eq (K : Nat) (x0 : List TS0.den) : CleanEdits (K + 1) x0 =
  CleanEdits_l0 K K 0 0 x0 (List.length x0 : Int) 0 := by kernel_rfl
theorem CleanEdits_l0_eq (K k : Nat) (x4 : Int) (x5 : Int) (x8 : List TS0.den) (x9 : Int) (x10 : Int) : CleanEdits_l0 K (k + 1) x4 x5 x8 x9 x10 =
  br (ltI x10 x9)
  (CleanEdits_j0 K k x4 x5 x8 x9 x10)
  (some (x4, x5)) := by kernel_rfl
theorem CleanEdits_j0_eq (K k : Nat) (x4 : Int) (x5 : Int) (x8 : List TS0.den) (x9 : Int) (x10 : Int) : CleanEdits_j0 K (k + 1) x4 x5 x8 x9 x10 =
  chk (leI 0 x10) (chk (ltI x10 (List.length x8 : Int)) (br (!eqI ((nth TS0 x8 x10).1) 0)
  (chk (nleI (List.length (runesI ((nth TS0 x8 x10).2))) 70368744177664) (CleanEdits_l0 K k (IntKind.i64.wrap (x4 + 1)) (IntKind.i64.wrap (x5 + (List.length (runesI ((nth TS0 x8 x10).2)) : Int))) x8 x9 (IntKind.i64.wrap (x10 + 1))))
  (CleanEdits_l0 K k x4 x5 x8 x9 (IntKind.i64.wrap (x10 + 1))))) := by kernel_rfl
theorem CleanSemantic_eq (K : Nat) (x0 : List TS0.den) : CleanSemantic (K + 1) x0 =
  Option.bind (plain K) fun t1 =>
  Option.bind (diffs K x0) fun t2 =>
  Option.bind (DiffCleanupSemantic K t1 t2) fun t3 =>
  Option.bind (back K t3) fun t4 =>
  some t4 := by kernel_rfl
theorem zzFits4_eq (K : Nat) (x0 : TS0.den) : zzFits4 (K + 1) x0 =
  br (ltI 2147483647 (ByteArray.size x0.2 : Int))
  (some false)
  (some true) := by kernel_rfl
theorem CleanRight_eq (K : Nat) (x0 : List TS0.den) (x1 : Int) (x2 : Int) (x3 : Bool) : CleanRight (K + 1) x0 x1 x2 x3 =
  br (ltI x1 (List.length x0 : Int))
  (some false)
  (CleanRight_j0 K K x0 x2 x3) := by kernel_rfl
theorem CleanRight_j0_eq (K k : Nat) (x0 : List TS0.den) (x2 : Int) (x3 : Bool) : CleanRight_j0 K (k + 1) x0 x2 x3 =
  CleanRight_l0 K k x2 x3 x0 (List.length x0 : Int) 0 := by kernel_rfl
theorem CleanRight_l0_eq (K k : Nat) (x2 : Int) (x3 : Bool) (x16 : List TS0.den) (x17 : Int) (x18 : Int) : CleanRight_l0 K (k + 1) x2 x3 x16 x17 x18 =
  br (ltI x18 x17)
  (CleanRight_j1 K k x2 x3 x16 x17 x18)
  (some true) := by kernel_rfl
theorem CleanRight_j1_eq (K k : Nat) (x2 : Int) (x3 : Bool) (x16 : List TS0.den) (x17 : Int) (x18 : Int) : CleanRight_j1 K (k + 1) x2 x3 x16 x17 x18 =
  chk (leI 0 x18) (chk (ltI x18 (List.length x16 : Int)) (br (ltI ((nth TS0 x16 x18).1) (-1))
  (CleanRight_j2 K k x2 x3 0 [(nth TS0 x16 x18)] x16 x17 x18 true)
  (br (ltI 1 ((nth TS0 x16 x18).1))
   (CleanRight_j2 K k x2 x3 0 [(nth TS0 x16 x18)] x16 x17 x18 true)
   (br (eqS ((nth TS0 x16 x18).2) (⟨#[]⟩ : ByteArray))
    (CleanRight_j2 K k x2 x3 0 [(nth TS0 x16 x18)] x16 x17 x18 true)
    (Option.bind (CleanChars K ((nth TS0 x16 x18).2) x2) fun t1 =>
     CleanRight_j2 K k x2 x3 0 [(nth TS0 x16 x18)] x16 x17 x18 (!t1)))))) := by kernel_rfl
theorem CleanRight_j2_eq (K k : Nat) (x2 : Int) (x3 : Bool) (i10 : Int) (x10 : List TS0.den) (x16 : List TS0.den) (x17 : Int) (x18 : Int) (x41 : Bool) : CleanRight_j2 K (k + 1) x2 x3 i10 x10 x16 x17 x18 x41 =
  br x41
  (some false)
  (CleanRight_j3 K k x2 x3 i10 x10 x16 x17 x18) := by kernel_rfl
theorem CleanRight_j3_eq (K k : Nat) (x2 : Int) (x3 : Bool) (i10 : Int) (x10 : List TS0.den) (x16 : List TS0.den) (x17 : Int) (x18 : Int) : CleanRight_j3 K (k + 1) x2 x3 i10 x10 x16 x17 x18 =
  CleanRight_l1 K k x2 x3 i10 x10 0 x16 x17 x18 := by kernel_rfl
theorem CleanRight_l1_eq (K k : Nat) (x2 : Int) (x3 : Bool) (i10 : Int) (x10 : List TS0.den) (x11 : Int) (x16 : List TS0.den) (x17 : Int) (x18 : Int) : CleanRight_l1 K (k + 1) x2 x3 i10 x10 x11 x16 x17 x18 =
  br (ltI x11 (ByteArray.size ((nth TS0 x10 i10).2) : Int))
  (br x3
   (CleanRight_j4 K k x2 x3 i10 x10 x11 x16 x17 x18)
   (CleanRight_l0 K k x2 x3 x16 x17 (IntKind.i64.wrap (x18 + 1))))
  (CleanRight_l0 K k x2 x3 x16 x17 (IntKind.i64.wrap (x18 + 1))) := by kernel_rfl
theorem CleanRight_j4_eq (K k : Nat) (x2 : Int) (x3 : Bool) (i10 : Int) (x10 : List TS0.den) (x11 : Int) (x16 : List TS0.den) (x17 : Int) (x18 : Int) : CleanRight_j4 K (k + 1) x2 x3 i10 x10 x11 x16 x17 x18 =
  chk (leI 0 x11) (chk (ltI x11 (ByteArray.size ((nth TS0 x10 i10).2) : Int)) (br (ltI 126 (bt ((nth TS0 x10 i10).2) x11))
  (some false)
  (CleanRight_l1 K k x2 x3 i10 x10 (IntKind.i64.wrap (x11 + 1)) x16 x17 x18))) := by kernel_rfl
theorem back_eq (K : Nat) (x0 : List TS2.den) : back (K + 1) x0 =
  back_l0 K K [] x0 (List.length x0 : Int) 0 := by kernel_rfl
theorem back_l0_eq (K k : Nat) (x3 : List TS0.den) (x6 : List TS2.den) (x7 : Int) (x8 : Int) : back_l0 K (k + 1) x3 x6 x7 x8 =
  br (ltI x8 x7)
  (back_j0 K k x3 x6 x7 x8)
  (some x3) := by kernel_rfl
theorem back_j0_eq (K k : Nat) (x3 : List TS0.den) (x6 : List TS2.den) (x7 : Int) (x8 : Int) : back_j0 K (k + 1) x3 x6 x7 x8 =
  chk (leI 0 x8) (chk (ltI x8 (List.length x6 : Int)) (chk (ltI ((List.length x3 : Int) + (List.length [((IntKind.i64.wrap ((nth TS2 x6 x8).1)), (nth TS2 x6 x8).2)] : Int)) 1000000000000) (back_l0 K k (x3 ++ [((IntKind.i64.wrap ((nth TS2 x6 x8).1)), (nth TS2 x6 x8).2)]) x6 x7 (IntKind.i64.wrap (x8 + 1))))) := by kernel_rfl
theorem plain_eq (K : Nat) : plain (K + 1) =
  Option.bind (New K) fun t1 =>
  some (0, (t1.2.1, (t1.2.2.1, (t1.2.2.2.1, (t1.2.2.2.2.1, (t1.2.2.2.2.2.1, t1.2.2.2.2.2.2)))))) := by kernel_rfl
theorem DiffCleanupSemanticLossless_eq (K : Nat) (x0 : TS1.den) (x1 : List TS2.den) : DiffCleanupSemanticLossless (K + 1) x0 x1 =
  DiffCleanupSemanticLossless_l0 K K 0 [x0] x1 1 := by kernel_rfl
theorem DiffCleanupSemanticLossless_l0_eq (K k : Nat) (i0 : Int) (x0 : List TS1.den) (x1 : List TS2.den) (x5 : Int) : DiffCleanupSemanticLossless_l0 K (k + 1) i0 x0 x1 x5 =
  br (ltI x5 (IntKind.i64.wrap ((List.length x1 : Int) - 1)))
  (DiffCleanupSemanticLossless_j0 K k i0 x0 x1 x5)
  (some x1) := by kernel_rfl
theorem DiffCleanupSemanticLossless_j0_eq (K k : Nat) (i0 : Int) (x0 : List TS1.den) (x1 : List TS2.den) (x5 : Int) : DiffCleanupSemanticLossless_j0 K (k + 1) i0 x0 x1 x5 =
  chk (leI 0 (IntKind.i64.wrap (x5 - 1))) (chk (ltI (IntKind.i64.wrap (x5 - 1)) (List.length x1 : Int)) (br (eqI ((nth TS2 x1 (IntKind.i64.wrap (x5 - 1))).1) 0)
  (chk (leI 0 (IntKind.i64.wrap (x5 + 1))) (chk (ltI (IntKind.i64.wrap (x5 + 1)) (List.length x1 : Int)) (DiffCleanupSemanticLossless_j1 K k i0 x0 x1 x5 (eqI ((nth TS2 x1 (IntKind.i64.wrap (x5 + 1))).1) 0))))
  (DiffCleanupSemanticLossless_j1 K k i0 x0 x1 x5 false))) := by kernel_rfl
theorem DiffCleanupSemanticLossless_j1_eq (K k : Nat) (i0 : Int) (x0 : List TS1.den) (x1 : List TS2.den) (x5 : Int) (x38 : Bool) : DiffCleanupSemanticLossless_j1 K (k + 1) i0 x0 x1 x5 x38 =
  br x38
  (chk (leI 0 (IntKind.i64.wrap (x5 - 1))) (chk (ltI (IntKind.i64.wrap (x5 - 1)) (List.length x1 : Int)) (chk (leI 0 x5) (chk (ltI x5 (List.length x1 : Int)) (chk (leI 0 (IntKind.i64.wrap (x5 + 1))) (chk (ltI (IntKind.i64.wrap (x5 + 1)) (List.length x1 : Int)) (Option.bind (DiffCommonSuffix K (nth TS1 x0 i0) ((nth TS2 x1 (IntKind.i64.wrap (x5 - 1))).2) ((nth TS2 x1 x5).2)) fun t1 =>
   br (ltI 0 t1)
   (chk (leI 0 (IntKind.i64.wrap ((ByteArray.size ((nth TS2 x1 x5).2) : Int) - t1))) (chk (leI (IntKind.i64.wrap ((ByteArray.size ((nth TS2 x1 x5).2) : Int) - t1)) (ByteArray.size ((nth TS2 x1 x5).2) : Int)) (chk (leI (ByteArray.size ((nth TS2 x1 x5).2) : Int) (ByteArray.size ((nth TS2 x1 x5).2) : Int)) (chk (leI 0 0) (chk (leI 0 (IntKind.i64.wrap ((ByteArray.size ((nth TS2 x1 (IntKind.i64.wrap (x5 - 1))).2) : Int) - t1))) (chk (leI (IntKind.i64.wrap ((ByteArray.size ((nth TS2 x1 (IntKind.i64.wrap (x5 - 1))).2) : Int) - t1)) (ByteArray.size ((nth TS2 x1 (IntKind.i64.wrap (x5 - 1))).2) : Int)) (chk (leI 0 0) (chk (leI 0 (IntKind.i64.wrap ((ByteArray.size ((nth TS2 x1 x5).2) : Int) - t1))) (chk (leI (IntKind.i64.wrap ((ByteArray.size ((nth TS2 x1 x5).2) : Int) - t1)) (ByteArray.size ((nth TS2 x1 x5).2) : Int)) (chk (nleI (ByteArray.size (ByteArray.extract ((nth TS2 x1 x5).2) (Int.toNat (IntKind.i64.wrap ((ByteArray.size ((nth TS2 x1 x5).2) : Int) - t1))) (Int.toNat (ByteArray.size ((nth TS2 x1 x5).2) : Int))) + ByteArray.size (ByteArray.extract ((nth TS2 x1 x5).2) (Int.toNat 0) (Int.toNat (IntKind.i64.wrap ((ByteArray.size ((nth TS2 x1 x5).2) : Int) - t1))))) 9223372036854775807) (chk (nleI (ByteArray.size (ByteArray.extract ((nth TS2 x1 x5).2) (Int.toNat (IntKind.i64.wrap ((ByteArray.size ((nth TS2 x1 x5).2) : Int) - t1))) (Int.toNat (ByteArray.size ((nth TS2 x1 x5).2) : Int))) + ByteArray.size ((nth TS2 x1 (IntKind.i64.wrap (x5 + 1))).2)) 9223372036854775807) (DiffCleanupSemanticLossless_j2 K k i0 x0 x1 x5 (ByteArray.extract ((nth TS2 x1 (IntKind.i64.wrap (x5 - 1))).2) (Int.toNat 0) (Int.toNat (IntKind.i64.wrap ((ByteArray.size ((nth TS2 x1 (IntKind.i64.wrap (x5 - 1))).2) : Int) - t1)))) (ByteArray.append (ByteArray.extract ((nth TS2 x1 x5).2) (Int.toNat (IntKind.i64.wrap ((ByteArray.size ((nth TS2 x1 x5).2) : Int) - t1))) (Int.toNat (ByteArray.size ((nth TS2 x1 x5).2) : Int))) (ByteArray.extract ((nth TS2 x1 x5).2) (Int.toNat 0) (Int.toNat (IntKind.i64.wrap ((ByteArray.size ((nth TS2 x1 x5).2) : Int) - t1))))) (ByteArray.append (ByteArray.extract ((nth TS2 x1 x5).2) (Int.toNat (IntKind.i64.wrap ((ByteArray.size ((nth TS2 x1 x5).2) : Int) - t1))) (Int.toNat (ByteArray.size ((nth TS2 x1 x5).2) : Int))) ((nth TS2 x1 (IntKind.i64.wrap (x5 + 1))).2))))))))))))))
   (DiffCleanupSemanticLossless_j2 K k i0 x0 x1 x5 ((nth TS2 x1 (IntKind.i64.wrap (x5 - 1))).2) ((nth TS2 x1 x5).2) ((nth TS2 x1 (IntKind.i64.wrap (x5 + 1))).2)))))))))
  (DiffCleanupSemanticLossless_l0 K k i0 x0 x1 (IntKind.i64.wrap (x5 + 1))) := by kernel_rfl
end Go.Proofs.YtaabfadjemmibaaDoor.E
