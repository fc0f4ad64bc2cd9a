import Derived.Test.YtfefjbifdbfmjaaDoorEvT
/- Written by a program of this session (wip/tools/mkev.py): what the functions' places evaluate to. Not trusted: Lean checks it. -/
namespace Go.Proofs.YtfefjbifdbfmjaaDoor.E
open Go.Ev
theorem FnDeltaBack_eq (K : Nat) (x0 : List TS1.den) : FnDeltaBack (K + 1) x0 =
  Option.bind (zzFits3 K x0) fun t1 =>
  br (!t1)
  (some true)
  (FnDeltaBack_j0 K K x0) := by kernel_rfl
theorem FnDeltaBack_j0_eq (K k : Nat) (x0 : List TS1.den) : FnDeltaBack_j0 K (k + 1) x0 =
  Option.bind (cleanFew K x0) fun t2 =>
  br (!t2)
  (Option.bind (deltaAwake K) fun t3 =>
   some t3)
  (FnDeltaBack_j1 K k x0) := by kernel_rfl
theorem FnDeltaBack_j1_eq (K k : Nat) (x0 : List TS1.den) : FnDeltaBack_j1 K (k + 1) x0 =
  Option.bind (cleanOf K x0) fun t4 =>
  Option.bind (CleanSide K t4 1) fun t5 =>
  Option.bind (cleanOwn K x0) fun t6 =>
  Option.bind (ToDelta K t6) fun t7 =>
  Option.bind (FromDelta K t5 t7) fun t8 =>
  Option.bind (deltaAwake K) fun t9 =>
  br t9
  (br (eqS t8.2 (⟨#[]⟩ : ByteArray))
   (Option.bind (cleanOf K t8.1) fun t10 =>
    Option.bind (cleanOf K x0) fun t11 =>
    Option.bind (CleanSame K t10 t11) fun t12 =>
    some t12)
   (some false))
  (some false) := by kernel_rfl
theorem FnDeltaRead_eq (K : Nat) (x0 : ByteArray) (x1 : ByteArray) : FnDeltaRead (K + 1) x0 x1 =
  br (ltI 2147483647 (ByteArray.size x0 : Int))
  (FnDeltaRead_j0 K K x0 x1 true)
  (FnDeltaRead_j0 K K x0 x1 (ltI 2147483647 (ByteArray.size x1 : Int))) := by kernel_rfl
theorem FnDeltaRead_j0_eq (K k : Nat) (x0 : ByteArray) (x1 : ByteArray) (x17 : Bool) : FnDeltaRead_j0 K (k + 1) x0 x1 x17 =
  br x17
  (some true)
  (FnDeltaRead_j1 K k x0 x1) := by kernel_rfl
theorem FnDeltaRead_j1_eq (K k : Nat) (x0 : ByteArray) (x1 : ByteArray) : FnDeltaRead_j1 K (k + 1) x0 x1 =
  br (ltI 200 (ByteArray.size x0 : Int))
  (FnDeltaRead_j2 K k x0 x1 true)
  (br (ltI 200 (ByteArray.size x1 : Int))
   (FnDeltaRead_j2 K k x0 x1 true)
   (Option.bind (CleanChars K x0 200) fun t1 =>
    FnDeltaRead_j2 K k x0 x1 (!t1))) := by kernel_rfl
theorem FnDeltaRead_j2_eq (K k : Nat) (x0 : ByteArray) (x1 : ByteArray) (x30 : Bool) : FnDeltaRead_j2 K (k + 1) x0 x1 x30 =
  br x30
  (Option.bind (deltaAwake K) fun t2 =>
   some t2)
  (FnDeltaRead_j3 K k x0 x1) := by kernel_rfl
theorem FnDeltaRead_j3_eq (K k : Nat) (x0 : ByteArray) (x1 : ByteArray) : FnDeltaRead_j3 K (k + 1) x0 x1 =
  Option.bind (DeltaRead K x0 x1) fun t3 =>
  br (!t3.2.2)
  (Option.bind (deltaAwake K) fun t4 =>
   some t4)
  (FnDeltaRead_j4 K k x0 x1 t3.1 t3.2.1) := by kernel_rfl
theorem FnDeltaRead_j4_eq (K k : Nat) (x0 : ByteArray) (x1 : ByteArray) (x5 : List TS1.den) (x6 : ByteArray) : FnDeltaRead_j4 K (k + 1) x0 x1 x5 x6 =
  Option.bind (FromDelta K x0 x1) fun t5 =>
  br (!(eqS x6 (⟨#[]⟩ : ByteArray)))
  (Option.bind (deltaAwake K) fun t6 =>
   br t6
   (br (leI (ByteArray.size x6 : Int) (ByteArray.size t5.2 : Int))
    (chk (leI 0 0) (chk (leI 0 (ByteArray.size x6 : Int)) (chk (leI (ByteArray.size x6 : Int) (ByteArray.size t5.2 : Int)) (br (eqS (ByteArray.extract t5.2 (Int.toNat 0) (Int.toNat (ByteArray.size x6 : Int))) x6)
     (some (eqI (List.length t5.1 : Int) 0))
     (some false)))))
    (some false))
   (some false))
  (FnDeltaRead_j5 K k x5 t5.1 t5.2) := by kernel_rfl
theorem FnDeltaRead_j5_eq (K k : Nat) (x5 : List TS1.den) (x8 : List TS1.den) (x9 : ByteArray) : FnDeltaRead_j5 K (k + 1) x5 x8 x9 =
  Option.bind (deltaAwake K) fun t7 =>
  br t7
  (br (eqS x9 (⟨#[]⟩ : ByteArray))
   (Option.bind (cleanOf K x8) fun t8 =>
    Option.bind (CleanSame K t8 x5) fun t9 =>
    some t9)
   (some false))
  (some false) := by kernel_rfl
theorem FnDeltaText_eq (K : Nat) (x0 : ByteArray) (x1 : ByteArray) : FnDeltaText (K + 1) x0 x1 =
  br (ltI 2147483647 (ByteArray.size x0 : Int))
  (FnDeltaText_j0 K K x0 x1 true)
  (FnDeltaText_j0 K K x0 x1 (ltI 2147483647 (ByteArray.size x1 : Int))) := by kernel_rfl
theorem FnDeltaText_j0_eq (K k : Nat) (x0 : ByteArray) (x1 : ByteArray) (x18 : Bool) : FnDeltaText_j0 K (k + 1) x0 x1 x18 =
  br x18
  (some true)
  (FnDeltaText_j1 K k x0 x1) := by kernel_rfl
theorem FnDeltaText_j1_eq (K k : Nat) (x0 : ByteArray) (x1 : ByteArray) : FnDeltaText_j1 K (k + 1) x0 x1 =
  br (ltI 200 (ByteArray.size x0 : Int))
  (FnDeltaText_j2 K k x0 x1 true)
  (br (ltI 200 (ByteArray.size x1 : Int))
   (FnDeltaText_j2 K k x0 x1 true)
   (Option.bind (CleanChars K x0 200) fun t1 =>
    FnDeltaText_j2 K k x0 x1 (!t1))) := by kernel_rfl
theorem FnDeltaText_j2_eq (K k : Nat) (x0 : ByteArray) (x1 : ByteArray) (x31 : Bool) : FnDeltaText_j2 K (k + 1) x0 x1 x31 =
  br x31
  (Option.bind (deltaAwake K) fun t2 =>
   some t2)
  (FnDeltaText_j3 K k x0 x1) := by kernel_rfl
theorem FnDeltaText_j3_eq (K k : Nat) (x0 : ByteArray) (x1 : ByteArray) : FnDeltaText_j3 K (k + 1) x0 x1 =
  Option.bind (DeltaRead K x0 x1) fun t3 =>
  br (!t3.2.2)
  (FnDeltaText_j4 K k x0 x1 true)
  (FnDeltaText_j4 K k x0 x1 (!(eqS t3.2.1 (⟨#[]⟩ : ByteArray)))) := by kernel_rfl
theorem FnDeltaText_j4_eq (K k : Nat) (x0 : ByteArray) (x1 : ByteArray) (x45 : Bool) : FnDeltaText_j4 K (k + 1) x0 x1 x45 =
  br x45
  (Option.bind (deltaAwake K) fun t4 =>
   some t4)
  (FnDeltaText_j5 K k x0 x1) := by kernel_rfl
theorem FnDeltaText_j5_eq (K k : Nat) (x0 : ByteArray) (x1 : ByteArray) : FnDeltaText_j5 K (k + 1) x0 x1 =
  Option.bind (FromDelta K x0 x1) fun t5 =>
  br (!(eqS t5.2 (⟨#[]⟩ : ByteArray)))
  (FnDeltaText_j6 K k x0 t5.1 true)
  (Option.bind (cleanOf K t5.1) fun t6 =>
   Option.bind (CleanSide K t6 1) fun t7 =>
   FnDeltaText_j6 K k x0 t5.1 (!(eqS t7 x0))) := by kernel_rfl
theorem FnDeltaText_j6_eq (K k : Nat) (x0 : ByteArray) (x8 : List TS1.den) (x61 : Bool) : FnDeltaText_j6 K (k + 1) x0 x8 x61 =
  br x61
  (some false)
  (FnDeltaText_j7 K k x0 x8) := by kernel_rfl
theorem FnDeltaText_j7_eq (K k : Nat) (x0 : ByteArray) (x8 : List TS1.den) : FnDeltaText_j7 K (k + 1) x0 x8 =
  Option.bind (cleanOwn K x8) fun t8 =>
  Option.bind (ToDelta K t8) fun t9 =>
  Option.bind (FromDelta K x0 t9) fun t10 =>
  Option.bind (deltaAwake K) fun t11 =>
  br t11
  (br (eqS t10.2 (⟨#[]⟩ : ByteArray))
   (Option.bind (cleanOf K x8) fun t12 =>
    Option.bind (cleanOf K t10.1) fun t13 =>
    Option.bind (CleanSame K t12 t13) fun t14 =>
    some t14)
   (some false))
  (some false) := by kernel_rfl
theorem FnDeltaWrite_eq (K : Nat) (x0 : List TS1.den) : FnDeltaWrite (K + 1) x0 =
  Option.bind (zzFits3 K x0) fun t1 =>
  br (!t1)
  (some true)
  (FnDeltaWrite_j0 K K x0) := by kernel_rfl
theorem FnDeltaWrite_j0_eq (K k : Nat) (x0 : List TS1.den) : FnDeltaWrite_j0 K (k + 1) x0 =
  Option.bind (cleanFew K x0) fun t2 =>
  br (!t2)
  (Option.bind (deltaAwake K) fun t3 =>
   some t3)
  (FnDeltaWrite_j1 K k x0) := by kernel_rfl
theorem FnDeltaWrite_j1_eq (K k : Nat) (x0 : List TS1.den) : FnDeltaWrite_j1 K (k + 1) x0 =
  Option.bind (deltaAwake K) fun t4 =>
  br t4
  (Option.bind (cleanOwn K x0) fun t5 =>
   Option.bind (ToDelta K t5) fun t6 =>
   Option.bind (cleanOf K x0) fun t7 =>
   Option.bind (DeltaOf K t7) fun t8 =>
   some (eqS t6 t8))
  (some false) := by kernel_rfl
theorem FnPrettyText_eq (K : Nat) (x0 : List TS1.den) : FnPrettyText (K + 1) x0 =
  Option.bind (zzFits3 K x0) fun t1 =>
  br (!t1)
  (some true)
  (FnPrettyText_j0 K K x0) := by kernel_rfl
theorem FnPrettyText_j0_eq (K k : Nat) (x0 : List TS1.den) : FnPrettyText_j0 K (k + 1) x0 =
  Option.bind (cleanFew K x0) fun t2 =>
  br (!t2)
  (Option.bind (deltaAwake K) fun t3 =>
   some t3)
  (FnPrettyText_j1 K k x0) := by kernel_rfl
theorem FnPrettyText_j1_eq (K k : Nat) (x0 : List TS1.den) : FnPrettyText_j1 K (k + 1) x0 =
  Option.bind (deltaAwake K) fun t4 =>
  br t4
  (Option.bind (cleanOwn K x0) fun t5 =>
   Option.bind (PrettyText K t5) fun t6 =>
   Option.bind (cleanOf K x0) fun t7 =>
   Option.bind (PrettyLines K t7) fun t8 =>
   some (eqS t6 t8))
  (some false) := by kernel_rfl
theorem FnPrettyHtml_eq (K : Nat) (x0 : List TS1.den) : FnPrettyHtml (K + 1) x0 =
  Option.bind (zzFits3 K x0) fun t1 =>
  br (!t1)
  (some true)
  (FnPrettyHtml_j0 K K x0) := by kernel_rfl
theorem FnPrettyHtml_j0_eq (K k : Nat) (x0 : List TS1.den) : FnPrettyHtml_j0 K (k + 1) x0 =
  Option.bind (cleanFew K x0) fun t2 =>
  br (!t2)
  (Option.bind (deltaAwake K) fun t3 =>
   some t3)
  (FnPrettyHtml_j1 K k x0) := by kernel_rfl
theorem FnPrettyHtml_j1_eq (K k : Nat) (x0 : List TS1.den) : FnPrettyHtml_j1 K (k + 1) x0 =
  Option.bind (deltaAwake K) fun t4 =>
  br t4
  (Option.bind (cleanOwn K x0) fun t5 =>
   Option.bind (PrettyHTML K t5) fun t6 =>
   Option.bind (cleanOf K x0) fun t7 =>
   Option.bind (PrettyMarked K t7) fun t8 =>
   some (eqS t6 t8))
  (some false) := by kernel_rfl
theorem FnPrettyApart_eq (K : Nat) (x0 : List TS1.den) (x1 : Int) : FnPrettyApart (K + 1) x0 x1 =
  Option.bind (zzFits3 K x0) fun t1 =>
  br (!t1)
  (some true)
  (FnPrettyApart_j0 K K x0 x1) := by kernel_rfl
theorem FnPrettyApart_j0_eq (K k : Nat) (x0 : List TS1.den) (x1 : Int) : FnPrettyApart_j0 K (k + 1) x0 x1 =
  Option.bind (cleanFew K x0) fun t2 =>
  br (!t2)
  (Option.bind (deltaAwake K) fun t3 =>
   some t3)
  (FnPrettyApart_j1 K k x0 x1) := by kernel_rfl
theorem FnPrettyApart_j1_eq (K k : Nat) (x0 : List TS1.den) (x1 : Int) : FnPrettyApart_j1 K (k + 1) x0 x1 =
  chk (!eqI (IntKind.i64.wrap ((List.length x0 : Int) + 1)) 0) (chk (leI 0 0) (chk (leI 0 (Int.tmod (IntKind.i64.wrap x1) (IntKind.i64.wrap ((List.length x0 : Int) + 1)))) (chk (leI (Int.tmod (IntKind.i64.wrap x1) (IntKind.i64.wrap ((List.length x0 : Int) + 1))) (List.length x0 : Int)) (Option.bind (cleanOwn K (List.take (Int.toNat (Int.tmod (IntKind.i64.wrap x1) (IntKind.i64.wrap ((List.length x0 : Int) + 1))) - Int.toNat 0) (List.drop (Int.toNat 0) x0))) fun t4 =>
  chk (leI 0 (Int.tmod (IntKind.i64.wrap x1) (IntKind.i64.wrap ((List.length x0 : Int) + 1)))) (chk (leI (Int.tmod (IntKind.i64.wrap x1) (IntKind.i64.wrap ((List.length x0 : Int) + 1))) (List.length x0 : Int)) (chk (leI (List.length x0 : Int) (List.length x0 : Int)) (Option.bind (cleanOwn K (List.take (Int.toNat (List.length x0 : Int) - Int.toNat (Int.tmod (IntKind.i64.wrap x1) (IntKind.i64.wrap ((List.length x0 : Int) + 1)))) (List.drop (Int.toNat (Int.tmod (IntKind.i64.wrap x1) (IntKind.i64.wrap ((List.length x0 : Int) + 1)))) x0))) fun t5 =>
  Option.bind (deltaAwake K) fun t6 =>
  br t6
  (Option.bind (cleanOwn K x0) fun t7 =>
   Option.bind (PrettyText K t7) fun t8 =>
   Option.bind (PrettyText K t4) fun t9 =>
   Option.bind (PrettyText K t5) fun t10 =>
   chk (nleI (ByteArray.size t9 + ByteArray.size t10) 9223372036854775807) (br (eqS t8 (ByteArray.append t9 t10))
   (Option.bind (cleanOwn K x0) fun t11 =>
    Option.bind (PrettyHTML K t11) fun t12 =>
    Option.bind (PrettyHTML K t4) fun t13 =>
    Option.bind (PrettyHTML K t5) fun t14 =>
    chk (nleI (ByteArray.size t13 + ByteArray.size t14) 9223372036854775807) (some (eqS t12 (ByteArray.append t13 t14))))
   (some false)))
  (some false)))))))) := by kernel_rfl
theorem zzFits3_eq (K : Nat) (x0 : List TS1.den) : zzFits3 (K + 1) x0 =
  br (ltI 2147483647 (List.length x0 : Int))
  (some false)
  (zzFits3_j0 K K x0) := by kernel_rfl
theorem zzFits3_j0_eq (K k : Nat) (x0 : List TS1.den) : zzFits3_j0 K (k + 1) x0 =
  zzFits3_l0 K k x0 (List.length x0 : Int) 0 := by kernel_rfl
theorem zzFits3_l0_eq (K k : Nat) (x8 : List TS1.den) (x9 : Int) (x10 : Int) : zzFits3_l0 K (k + 1) x8 x9 x10 =
  br (ltI x10 x9)
  (zzFits3_j1 K k x8 x9 x10)
  (some true) := by kernel_rfl
theorem zzFits3_j1_eq (K k : Nat) (x8 : List TS1.den) (x9 : Int) (x10 : Int) : zzFits3_j1 K (k + 1) x8 x9 x10 =
  chk (leI 0 x10) (chk (ltI x10 (List.length x8 : Int)) (Option.bind (zzFits4 K (nth TS1 x8 x10)) fun t1 =>
  br (!t1)
  (some false)
  (zzFits3_l0 K k x8 x9 (IntKind.i64.wrap (x10 + 1))))) := by kernel_rfl
theorem cleanFew_eq (K : Nat) (x0 : List TS1.den) : cleanFew (K + 1) x0 =
  br (leI (List.length x0 : Int) 12)
  (Option.bind (cleanOf K x0) fun t1 =>
   Option.bind (CleanRight K t1 12 40 false) fun t2 =>
   some t2)
  (some false) := by kernel_rfl
theorem deltaAwake_eq (K : Nat) : deltaAwake (K + 1) =
  Option.bind (FromDelta K (⟨#[115, 99, 97, 114, 101]⟩ : ByteArray) (⟨#[61, 51, 9, 45, 50, 9, 43, 108, 105, 110, 103]⟩ : ByteArray)) fun t1 =>
  Option.bind (ToDelta K ([(0, (⟨#[115, 99, 97]⟩ : ByteArray)), ((-1), (⟨#[114, 101]⟩ : ByteArray)), (1, (⟨#[108, 105, 110, 103]⟩ : ByteArray))] : List TS1.den)) fun t2 =>
  br (eqS t2 (⟨#[61, 51, 9, 45, 50, 9, 43, 108, 105, 110, 103]⟩ : ByteArray))
  (br (eqS t1.2 (⟨#[]⟩ : ByteArray))
   (Option.bind (cleanOf K t1.1) fun t3 =>
    Option.bind (cleanOf K ([(0, (⟨#[115, 99, 97]⟩ : ByteArray)), ((-1), (⟨#[114, 101]⟩ : ByteArray)), (1, (⟨#[108, 105, 110, 103]⟩ : ByteArray))] : List TS1.den)) fun t4 =>
    Option.bind (CleanSame K t3 t4) fun t5 =>
    some t5)
   (some false))
  (some false) := by kernel_rfl
theorem FromDelta_eq (K : Nat) (x0 : ByteArray) (x1 : ByteArray) : FromDelta (K + 1) x0 x1 =
  Option.bind (plain K) fun t1 =>
  Option.bind (DiffFromDelta K t1 x0 x1) fun t2 =>
  FromDelta_j0 K K t2.1 := by kernel_rfl
theorem FromDelta_j0_eq (K k : Nat) (x6 : List TS0.den) : FromDelta_j0 K (k + 1) x6 =
  Option.bind (back K x6) fun t3 =>
  some (t3, (⟨#[]⟩ : ByteArray)) := by kernel_rfl
theorem CleanSide_eq (K : Nat) (x0 : List TS1.den) (x1 : Int) : CleanSide (K + 1) x0 x1 =
  CleanSide_l0 K K x1 (⟨#[]⟩ : ByteArray) x0 (List.length x0 : Int) 0 := by kernel_rfl
theorem CleanSide_l0_eq (K k : Nat) (x1 : Int) (x5 : ByteArray) (x8 : List TS1.den) (x9 : Int) (x10 : Int) : CleanSide_l0 K (k + 1) x1 x5 x8 x9 x10 =
  br (ltI x10 x9)
  (CleanSide_j0 K k x1 x5 x8 x9 x10)
  (some x5) := by kernel_rfl
theorem CleanSide_j0_eq (K k : Nat) (x1 : Int) (x5 : ByteArray) (x8 : List TS1.den) (x9 : Int) (x10 : Int) : CleanSide_j0 K (k + 1) x1 x5 x8 x9 x10 =
  chk (leI 0 x10) (chk (ltI x10 (List.length x8 : Int)) (br (!eqI ((nth TS1 x8 x10).1) x1)
  (chk (nleI (ByteArray.size x5 + ByteArray.size ((nth TS1 x8 x10).2)) 9223372036854775807) (CleanSide_l0 K k x1 (ByteArray.append x5 ((nth TS1 x8 x10).2)) x8 x9 (IntKind.i64.wrap (x10 + 1))))
  (CleanSide_l0 K k x1 x5 x8 x9 (IntKind.i64.wrap (x10 + 1))))) := by kernel_rfl
theorem cleanOf_eq (K : Nat) (x0 : List TS1.den) : cleanOf (K + 1) x0 =
  cleanOf_l0 K K [] x0 (List.length x0 : Int) 0 := by kernel_rfl
theorem cleanOf_l0_eq (K k : Nat) (x3 : List TS1.den) (x6 : List TS1.den) (x7 : Int) (x8 : Int) : cleanOf_l0 K (k + 1) x3 x6 x7 x8 =
  br (ltI x8 x7)
  (cleanOf_j0 K k x3 x6 x7 x8)
  (some x3) := by kernel_rfl
theorem cleanOf_j0_eq (K k : Nat) (x3 : List TS1.den) (x6 : List TS1.den) (x7 : Int) (x8 : Int) : cleanOf_j0 K (k + 1) x3 x6 x7 x8 =
  chk (leI 0 x8) (chk (ltI x8 (List.length x6 : Int)) (chk (ltI ((List.length x3 : Int) + (List.length ([(nth TS1 x6 x8)] : List TS1.den) : Int)) 1000000000000) (cleanOf_l0 K k (x3 ++ ([(nth TS1 x6 x8)] : List TS1.den)) x6 x7 (IntKind.i64.wrap (x8 + 1))))) := by kernel_rfl
theorem ToDelta_eq (K : Nat) (x0 : List TS1.den) : ToDelta (K + 1) x0 =
  Option.bind (plain K) fun t1 =>
  Option.bind (diffs K x0) fun t2 =>
  Option.bind (DiffToDelta K t2) fun t3 =>
  some t3 := by kernel_rfl
theorem cleanOwn_eq (K : Nat) (x0 : List TS1.den) : cleanOwn (K + 1) x0 =
  chk (ltI (List.length x0 : Int) 1000000000000) (some x0) := by kernel_rfl
theorem CleanSame_eq (K : Nat) (x0 : List TS1.den) (x1 : List TS1.den) : CleanSame (K + 1) x0 x1 =
  br (!eqI (List.length x0 : Int) (List.length x1 : Int))
  (some false)
  (CleanSame_j0 K K x0 x1) := by kernel_rfl
theorem CleanSame_j0_eq (K k : Nat) (x0 : List TS1.den) (x1 : List TS1.den) : CleanSame_j0 K (k + 1) x0 x1 =
  CleanSame_l0 K k x0 x1 (List.length x0 : Int) 0 := by kernel_rfl
theorem CleanSame_l0_eq (K k : Nat) (x0 : List TS1.den) (x1 : List TS1.den) (x12 : Int) (x13 : Int) : CleanSame_l0 K (k + 1) x0 x1 x12 x13 =
  br (ltI x13 x12)
  (CleanSame_j1 K k x0 x1 x12 x13)
  (some true) := by kernel_rfl
theorem CleanSame_j1_eq (K k : Nat) (x0 : List TS1.den) (x1 : List TS1.den) (x12 : Int) (x13 : Int) : CleanSame_j1 K (k + 1) x0 x1 x12 x13 =
  chk (leI 0 x13) (chk (ltI x13 (List.length x0 : Int)) (chk (leI 0 x13) (chk (ltI x13 (List.length x1 : Int)) (br (!((eqI ((nth TS1 x0 x13).1) ((nth TS1 x1 x13).1)) && (eqS ((nth TS1 x0 x13).2) ((nth TS1 x1 x13).2))))
  (some false)
  (CleanSame_l0 K k x0 x1 x12 (IntKind.i64.wrap (x13 + 1))))))) := by kernel_rfl
theorem CleanChars_eq (K : Nat) (x0 : ByteArray) (x1 : Int) : CleanChars (K + 1) x0 x1 =
  br (leI (ByteArray.size x0 : Int) x1)
  (chk (nleI (List.length (runesI x0)) 70368744177664) (some (eqS (strOfRunes (runesI x0)) x0)))
  (some false) := by kernel_rfl
theorem DeltaRead_eq (K : Nat) (x0 : ByteArray) (x1 : ByteArray) : DeltaRead (K + 1) x0 x1 =
  chk (nleI (List.length (runesI x0)) 70368744177664) (Option.bind (deltaTokens K x1) fun t1 =>
  DeltaRead_l0 K K (runesI x0) [] 0 t1 (List.length t1 : Int) 0) := by kernel_rfl
theorem DeltaRead_l0_eq (K k : Nat) (x7 : List Int) (x8 : List TS1.den) (x9 : Int) (x21 : List ByteArray) (x22 : Int) (x23 : Int) : DeltaRead_l0 K (k + 1) x7 x8 x9 x21 x22 x23 =
  br (ltI x23 x22)
  (DeltaRead_j0 K k x7 x8 x9 x21 x22 x23)
  (DeltaRead_j1 K k x7 x8 x9) := by kernel_rfl
theorem DeltaRead_j0_eq (K k : Nat) (x7 : List Int) (x8 : List TS1.den) (x9 : Int) (x21 : List ByteArray) (x22 : Int) (x23 : Int) : DeltaRead_j0 K (k + 1) x7 x8 x9 x21 x22 x23 =
  chk (leI 0 x23) (chk (ltI x23 (List.length x21 : Int)) (chk (leI 0 1) (chk (leI 1 (ByteArray.size (nth .str x21 x23) : Int)) (chk (leI (ByteArray.size (nth .str x21 x23) : Int) (ByteArray.size (nth .str x21 x23) : Int)) (chk (leI 0 0) (chk (ltI 0 (ByteArray.size (nth .str x21 x23) : Int)) (br (eqI (bt (nth .str x21 x23) 0) 43)
  (Option.bind (deltaText K (ByteArray.extract (nth .str x21 x23) (Int.toNat 1) (Int.toNat (ByteArray.size (nth .str x21 x23) : Int)))) fun t2 =>
   br (!t2.2)
   (some ([], ((⟨#[105, 110, 118, 97, 108, 105, 100, 32, 85, 82, 76, 32, 101, 115, 99, 97, 112, 101]⟩ : ByteArray), true)))
   (DeltaRead_j2 K k x7 x8 x9 t2.1 x21 x22 x23))
  (br (eqI (bt (nth .str x21 x23) 0) 61)
   (DeltaRead_j3 K k x7 x8 x9 (nth .str x21 x23) (ByteArray.extract (nth .str x21 x23) (Int.toNat 1) (Int.toNat (ByteArray.size (nth .str x21 x23) : Int))) x21 x22 x23 (eqI (bt (nth .str x21 x23) 0) 61))
   (DeltaRead_j3 K k x7 x8 x9 (nth .str x21 x23) (ByteArray.extract (nth .str x21 x23) (Int.toNat 1) (Int.toNat (ByteArray.size (nth .str x21 x23) : Int))) x21 x22 x23 (eqI (bt (nth .str x21 x23) 0) 45)))))))))) := by kernel_rfl
theorem DeltaRead_j1_eq (K k : Nat) (x7 : List Int) (x8 : List TS1.den) (x9 : Int) : DeltaRead_j1 K (k + 1) x7 x8 x9 =
  br (!eqI x9 (List.length x7 : Int))
  (some ([], ((⟨#[68, 101, 108, 116, 97, 32, 108, 101, 110, 103, 116, 104]⟩ : ByteArray), true)))
  (some (x8, ((⟨#[]⟩ : ByteArray), true))) := by kernel_rfl
theorem DeltaRead_j2_eq (K k : Nat) (x7 : List Int) (x8 : List TS1.den) (x9 : Int) (x13 : ByteArray) (x21 : List ByteArray) (x22 : Int) (x23 : Int) : DeltaRead_j2 K (k + 1) x7 x8 x9 x13 x21 x22 x23 =
  chk (nleI (List.length (runesI x13)) 70368744177664) (br (!(eqS (strOfRunes (runesI x13)) x13))
  (some ([], ((⟨#[105, 110, 118, 97, 108, 105, 100, 32, 85, 84, 70, 45, 56, 32, 116, 111, 107, 101, 110]⟩ : ByteArray), true)))
  (DeltaRead_j4 K k x7 x8 x9 x13 x21 x22 x23)) := by kernel_rfl
theorem DeltaRead_j3_eq (K k : Nat) (x7 : List Int) (x8 : List TS1.den) (x9 : Int) (x11 : ByteArray) (x12 : ByteArray) (x21 : List ByteArray) (x22 : Int) (x23 : Int) (x50 : Bool) : DeltaRead_j3 K (k + 1) x7 x8 x9 x11 x12 x21 x22 x23 x50 =
  br x50
  (Option.bind (deltaCount K x12) fun t3 =>
   br (!t3.2)
   (some ([], ((⟨#[115, 116, 114, 99, 111, 110, 118, 46, 80, 97, 114, 115, 101, 73, 110, 116]⟩ : ByteArray), true)))
   (br (ltI 1000000000 t3.1)
    (DeltaRead_j5 K k x7 x8 x9 x11 t3.1 x21 x22 x23 true)
    (DeltaRead_j5 K k x7 x8 x9 x11 t3.1 x21 x22 x23 (ltI t3.1 (-1000000000)))))
  (some ([], ((⟨#[73, 110, 118, 97, 108, 105, 100, 32, 100, 105, 102, 102, 32, 111, 112, 101, 114, 97, 116, 105, 111, 110]⟩ : ByteArray), true))) := by kernel_rfl
theorem DeltaRead_j4_eq (K k : Nat) (x7 : List Int) (x8 : List TS1.den) (x9 : Int) (x13 : ByteArray) (x21 : List ByteArray) (x22 : Int) (x23 : Int) : DeltaRead_j4 K (k + 1) x7 x8 x9 x13 x21 x22 x23 =
  chk (ltI ((List.length x8 : Int) + (List.length ([(1, x13)] : List TS1.den) : Int)) 1000000000000) (DeltaRead_l0 K k x7 (x8 ++ ([(1, x13)] : List TS1.den)) x9 x21 x22 (IntKind.i64.wrap (x23 + 1))) := by kernel_rfl
theorem DeltaRead_j5_eq (K k : Nat) (x7 : List Int) (x8 : List TS1.den) (x9 : Int) (x11 : ByteArray) (x15 : Int) (x21 : List ByteArray) (x22 : Int) (x23 : Int) (x61 : Bool) : DeltaRead_j5 K (k + 1) x7 x8 x9 x11 x15 x21 x22 x23 x61 =
  br x61
  (some ([], ((⟨#[]⟩ : ByteArray), false)))
  (br (ltI x15 0)
   (some ([], ((⟨#[78, 101, 103, 97, 116, 105, 118, 101, 32, 110, 117, 109, 98, 101, 114]⟩ : ByteArray), true)))
   (DeltaRead_j6 K k x7 x8 x9 x11 x15 x21 x22 x23)) := by kernel_rfl
theorem DeltaRead_j6_eq (K k : Nat) (x7 : List Int) (x8 : List TS1.den) (x9 : Int) (x11 : ByteArray) (x15 : Int) (x21 : List ByteArray) (x22 : Int) (x23 : Int) : DeltaRead_j6 K (k + 1) x7 x8 x9 x11 x15 x21 x22 x23 =
  br (leI (IntKind.i64.wrap (x9 + x15)) (List.length x7 : Int))
  (chk (leI 0 (IntKind.i64.wrap ((IntKind.i64.wrap (x9 + x15)) - x15))) (chk (leI (IntKind.i64.wrap ((IntKind.i64.wrap (x9 + x15)) - x15)) (IntKind.i64.wrap (x9 + x15))) (chk (leI (IntKind.i64.wrap (x9 + x15)) (List.length x7 : Int)) (chk (leI 0 0) (chk (ltI 0 (ByteArray.size x11 : Int)) (br (eqI (bt x11 0) 45)
   (DeltaRead_j7 K k x7 x8 (IntKind.i64.wrap (x9 + x15)) 0 [((-1), (strOfRunes (List.take (Int.toNat (IntKind.i64.wrap (x9 + x15)) - Int.toNat (IntKind.i64.wrap ((IntKind.i64.wrap (x9 + x15)) - x15))) (List.drop (Int.toNat (IntKind.i64.wrap ((IntKind.i64.wrap (x9 + x15)) - x15))) x7))))] x21 x22 x23)
   (DeltaRead_j7 K k x7 x8 (IntKind.i64.wrap (x9 + x15)) 0 [(0, (strOfRunes (List.take (Int.toNat (IntKind.i64.wrap (x9 + x15)) - Int.toNat (IntKind.i64.wrap ((IntKind.i64.wrap (x9 + x15)) - x15))) (List.drop (Int.toNat (IntKind.i64.wrap ((IntKind.i64.wrap (x9 + x15)) - x15))) x7))))] x21 x22 x23)))))))
  (DeltaRead_l0 K k x7 x8 (IntKind.i64.wrap (x9 + x15)) x21 x22 (IntKind.i64.wrap (x23 + 1))) := by kernel_rfl
theorem DeltaRead_j7_eq (K k : Nat) (x7 : List Int) (x8 : List TS1.den) (x9 : Int) (i17 : Int) (x17 : List TS1.den) (x21 : List ByteArray) (x22 : Int) (x23 : Int) : DeltaRead_j7 K (k + 1) x7 x8 x9 i17 x17 x21 x22 x23 =
  chk (ltI ((List.length x8 : Int) + (List.length ([(nth TS1 x17 i17)] : List TS1.den) : Int)) 1000000000000) (DeltaRead_l0 K k x7 (x8 ++ ([(nth TS1 x17 i17)] : List TS1.den)) x9 x21 x22 (IntKind.i64.wrap (x23 + 1))) := by kernel_rfl
theorem DeltaOf_eq (K : Nat) (x0 : List TS1.den) : DeltaOf (K + 1) x0 =
  DeltaOf_l0 K K (⟨#[]⟩ : ByteArray) x0 (List.length x0 : Int) 0 := by kernel_rfl
theorem DeltaOf_l0_eq (K k : Nat) (x3 : ByteArray) (x6 : List TS1.den) (x7 : Int) (x8 : Int) : DeltaOf_l0 K (k + 1) x3 x6 x7 x8 =
  br (ltI x8 x7)
  (DeltaOf_j0 K k x3 x6 x7 x8)
  (some x3) := by kernel_rfl
theorem DeltaOf_j0_eq (K k : Nat) (x3 : ByteArray) (x6 : List TS1.den) (x7 : Int) (x8 : Int) : DeltaOf_j0 K (k + 1) x3 x6 x7 x8 =
  chk (leI 0 x8) (chk (ltI x8 (List.length x6 : Int)) (br (ltI 0 x8)
  (chk (nleI (ByteArray.size x3 + ByteArray.size (⟨#[9]⟩ : ByteArray)) 9223372036854775807) (DeltaOf_j1 K k (ByteArray.append x3 (⟨#[9]⟩ : ByteArray)) 0 [(nth TS1 x6 x8)] x6 x7 x8))
  (DeltaOf_j1 K k x3 0 [(nth TS1 x6 x8)] x6 x7 x8))) := by kernel_rfl
theorem DeltaOf_j1_eq (K k : Nat) (x3 : ByteArray) (i5 : Int) (x5 : List TS1.den) (x6 : List TS1.den) (x7 : Int) (x8 : Int) : DeltaOf_j1 K (k + 1) x3 i5 x5 x6 x7 x8 =
  br (eqI ((nth TS1 x5 i5).1) 1)
  (Option.bind (DeltaEscaped K ((nth TS1 x5 i5).2)) fun t1 =>
   chk (nleI (ByteArray.size (⟨#[43]⟩ : ByteArray) + ByteArray.size t1) 9223372036854775807) (chk (nleI (ByteArray.size x3 + ByteArray.size (ByteArray.append (⟨#[43]⟩ : ByteArray) t1)) 9223372036854775807) (DeltaOf_l0 K k (ByteArray.append x3 (ByteArray.append (⟨#[43]⟩ : ByteArray) t1)) x6 x7 (IntKind.i64.wrap (x8 + 1)))))
  (br (eqI ((nth TS1 x5 i5).1) (-1))
   (chk (nleI (List.length (runesI ((nth TS1 x5 i5).2))) 70368744177664) (Option.bind (deltaNumber K (List.length (runesI ((nth TS1 x5 i5).2)) : Int)) fun t2 =>
    chk (nleI (ByteArray.size (⟨#[45]⟩ : ByteArray) + ByteArray.size t2) 9223372036854775807) (chk (nleI (ByteArray.size x3 + ByteArray.size (ByteArray.append (⟨#[45]⟩ : ByteArray) t2)) 9223372036854775807) (DeltaOf_l0 K k (ByteArray.append x3 (ByteArray.append (⟨#[45]⟩ : ByteArray) t2)) x6 x7 (IntKind.i64.wrap (x8 + 1))))))
   (chk (nleI (List.length (runesI ((nth TS1 x5 i5).2))) 70368744177664) (Option.bind (deltaNumber K (List.length (runesI ((nth TS1 x5 i5).2)) : Int)) fun t3 =>
    chk (nleI (ByteArray.size (⟨#[61]⟩ : ByteArray) + ByteArray.size t3) 9223372036854775807) (chk (nleI (ByteArray.size x3 + ByteArray.size (ByteArray.append (⟨#[61]⟩ : ByteArray) t3)) 9223372036854775807) (DeltaOf_l0 K k (ByteArray.append x3 (ByteArray.append (⟨#[61]⟩ : ByteArray) t3)) x6 x7 (IntKind.i64.wrap (x8 + 1))))))) := by kernel_rfl
theorem PrettyText_eq (K : Nat) (x0 : List TS1.den) : PrettyText (K + 1) x0 =
  Option.bind (plain K) fun t1 =>
  Option.bind (diffs K x0) fun t2 =>
  Option.bind (DiffPrettyText K t2) fun t3 =>
  some t3 := by kernel_rfl
theorem PrettyLines_eq (K : Nat) (x0 : List TS1.den) : PrettyLines (K + 1) x0 =
  PrettyLines_l0 K K (⟨#[]⟩ : ByteArray) x0 (List.length x0 : Int) 0 := by kernel_rfl
theorem PrettyLines_l0_eq (K k : Nat) (x3 : ByteArray) (x8 : List TS1.den) (x9 : Int) (x10 : Int) : PrettyLines_l0 K (k + 1) x3 x8 x9 x10 =
  br (ltI x10 x9)
  (PrettyLines_j0 K k x3 x8 x9 x10)
  (some x3) := by kernel_rfl
theorem PrettyLines_j0_eq (K k : Nat) (x3 : ByteArray) (x8 : List TS1.den) (x9 : Int) (x10 : Int) : PrettyLines_j0 K (k + 1) x3 x8 x9 x10 =
  chk (leI 0 x10) (chk (ltI x10 (List.length x8 : Int)) (br (eqI ((nth TS1 x8 x10).1) 0)
  (chk (nleI (ByteArray.size x3 + ByteArray.size ((nth TS1 x8 x10).2)) 9223372036854775807) (PrettyLines_l0 K k (ByteArray.append x3 ((nth TS1 x8 x10).2)) x8 x9 (IntKind.i64.wrap (x10 + 1))))
  (PrettyLines_j1 K k x3 0 [(nth TS1 x8 x10)] x8 x9 x10))) := by kernel_rfl
theorem PrettyLines_j1_eq (K k : Nat) (x3 : ByteArray) (i5 : Int) (x5 : List TS1.den) (x8 : List TS1.den) (x9 : Int) (x10 : Int) : PrettyLines_j1 K (k + 1) x3 i5 x5 x8 x9 x10 =
  br (ltI ((nth TS1 x5 i5).1) 0)
  (PrettyLines_j2 K k x3 i5 x5 (⟨#[27, 91, 51, 49, 109]⟩ : ByteArray) x8 x9 x10)
  (PrettyLines_j2 K k x3 i5 x5 (⟨#[27, 91, 51, 50, 109]⟩ : ByteArray) x8 x9 x10) := by kernel_rfl
theorem PrettyLines_j2_eq (K k : Nat) (x3 : ByteArray) (i5 : Int) (x5 : List TS1.den) (x6 : ByteArray) (x8 : List TS1.den) (x9 : Int) (x10 : Int) : PrettyLines_j2 K (k + 1) x3 i5 x5 x6 x8 x9 x10 =
  chk (nleI (ByteArray.size x3 + ByteArray.size x6) 9223372036854775807) (PrettyLines_l1 K k (ByteArray.append x3 x6) i5 x5 x6 x8 x9 x10 (ByteArray.size ((nth TS1 x5 i5).2) : Int) 0) := by kernel_rfl
theorem PrettyLines_l1_eq (K k : Nat) (x3 : ByteArray) (i5 : Int) (x5 : List TS1.den) (x6 : ByteArray) (x8 : List TS1.den) (x9 : Int) (x10 : Int) (x29 : Int) (x30 : Int) : PrettyLines_l1 K (k + 1) x3 i5 x5 x6 x8 x9 x10 x29 x30 =
  br (ltI x30 x29)
  (PrettyLines_j3 K k x3 i5 x5 x6 x8 x9 x10 x29 x30)
  (chk (nleI (ByteArray.size x3 + ByteArray.size (⟨#[27, 91, 48, 109]⟩ : ByteArray)) 9223372036854775807) (PrettyLines_l0 K k (ByteArray.append x3 (⟨#[27, 91, 48, 109]⟩ : ByteArray)) x8 x9 (IntKind.i64.wrap (x10 + 1)))) := by kernel_rfl
theorem PrettyLines_j3_eq (K k : Nat) (x3 : ByteArray) (i5 : Int) (x5 : List TS1.den) (x6 : ByteArray) (x8 : List TS1.den) (x9 : Int) (x10 : Int) (x29 : Int) (x30 : Int) : PrettyLines_j3 K (k + 1) x3 i5 x5 x6 x8 x9 x10 x29 x30 =
  chk (leI 0 x30) (chk (ltI x30 (ByteArray.size ((nth TS1 x5 i5).2) : Int)) (br (eqI (bt ((nth TS1 x5 i5).2) x30) 10)
  (chk (nleI (ByteArray.size (⟨#[27, 91, 48, 109, 10]⟩ : ByteArray) + ByteArray.size x6) 9223372036854775807) (chk (nleI (ByteArray.size x3 + ByteArray.size (ByteArray.append (⟨#[27, 91, 48, 109, 10]⟩ : ByteArray) x6)) 9223372036854775807) (PrettyLines_l1 K k (ByteArray.append x3 (ByteArray.append (⟨#[27, 91, 48, 109, 10]⟩ : ByteArray) x6)) i5 x5 x6 x8 x9 x10 x29 (IntKind.i64.wrap (x30 + 1)))))
  (chk (leI 0 x30) (chk (leI x30 (IntKind.i64.wrap (x30 + 1))) (chk (leI (IntKind.i64.wrap (x30 + 1)) (ByteArray.size ((nth TS1 x5 i5).2) : Int)) (chk (nleI (ByteArray.size x3 + ByteArray.size (ByteArray.extract ((nth TS1 x5 i5).2) (Int.toNat x30) (Int.toNat (IntKind.i64.wrap (x30 + 1))))) 9223372036854775807) (PrettyLines_l1 K k (ByteArray.append x3 (ByteArray.extract ((nth TS1 x5 i5).2) (Int.toNat x30) (Int.toNat (IntKind.i64.wrap (x30 + 1))))) i5 x5 x6 x8 x9 x10 x29 (IntKind.i64.wrap (x30 + 1))))))))) := by kernel_rfl
theorem PrettyHTML_eq (K : Nat) (x0 : List TS1.den) : PrettyHTML (K + 1) x0 =
  Option.bind (plain K) fun t1 =>
  Option.bind (diffs K x0) fun t2 =>
  Option.bind (DiffPrettyHtml K t2) fun t3 =>
  some t3 := by kernel_rfl
theorem PrettyMarked_eq (K : Nat) (x0 : List TS1.den) : PrettyMarked (K + 1) x0 =
  PrettyMarked_l0 K K (⟨#[]⟩ : ByteArray) x0 (List.length x0 : Int) 0 := by kernel_rfl
theorem PrettyMarked_l0_eq (K k : Nat) (x3 : ByteArray) (x10 : List TS1.den) (x11 : Int) (x12 : Int) : PrettyMarked_l0 K (k + 1) x3 x10 x11 x12 =
  br (ltI x12 x11)
  (PrettyMarked_j0 K k x3 x10 x11 x12)
  (some x3) := by kernel_rfl
theorem PrettyMarked_j0_eq (K k : Nat) (x3 : ByteArray) (x10 : List TS1.den) (x11 : Int) (x12 : Int) : PrettyMarked_j0 K (k + 1) x3 x10 x11 x12 =
  chk (leI 0 x12) (chk (ltI x12 (List.length x10 : Int)) (br (ltI 0 ((nth TS1 x10 x12).1))
  (PrettyMarked_j1 K k x3 0 [(nth TS1 x10 x12)] (⟨#[60, 105, 110, 115, 32, 115, 116, 121, 108, 101, 61, 34, 98, 97, 99, 107, 103, 114, 111, 117, 110, 100, 58, 35, 101, 54, 102, 102, 101, 54, 59, 34, 62]⟩ : ByteArray) (⟨#[60, 47, 105, 110, 115, 62]⟩ : ByteArray) x10 x11 x12)
  (PrettyMarked_j1 K k x3 0 [(nth TS1 x10 x12)] (⟨#[60, 115, 112, 97, 110, 62]⟩ : ByteArray) (⟨#[60, 47, 115, 112, 97, 110, 62]⟩ : ByteArray) x10 x11 x12))) := by kernel_rfl
theorem PrettyMarked_j1_eq (K k : Nat) (x3 : ByteArray) (i5 : Int) (x5 : List TS1.den) (x6 : ByteArray) (x7 : ByteArray) (x10 : List TS1.den) (x11 : Int) (x12 : Int) : PrettyMarked_j1 K (k + 1) x3 i5 x5 x6 x7 x10 x11 x12 =
  br (ltI ((nth TS1 x5 i5).1) 0)
  (PrettyMarked_j2 K k x3 i5 x5 (⟨#[60, 100, 101, 108, 32, 115, 116, 121, 108, 101, 61, 34, 98, 97, 99, 107, 103, 114, 111, 117, 110, 100, 58, 35, 102, 102, 101, 54, 101, 54, 59, 34, 62]⟩ : ByteArray) (⟨#[60, 47, 100, 101, 108, 62]⟩ : ByteArray) x10 x11 x12)
  (PrettyMarked_j2 K k x3 i5 x5 x6 x7 x10 x11 x12) := by kernel_rfl
theorem PrettyMarked_j2_eq (K k : Nat) (x3 : ByteArray) (i5 : Int) (x5 : List TS1.den) (x6 : ByteArray) (x7 : ByteArray) (x10 : List TS1.den) (x11 : Int) (x12 : Int) : PrettyMarked_j2 K (k + 1) x3 i5 x5 x6 x7 x10 x11 x12 =
  chk (nleI (ByteArray.size x3 + ByteArray.size x6) 9223372036854775807) (PrettyMarked_l1 K k (ByteArray.append x3 x6) i5 x5 x7 x10 x11 x12 (ByteArray.size ((nth TS1 x5 i5).2) : Int) 0) := by kernel_rfl
theorem PrettyMarked_l1_eq (K k : Nat) (x3 : ByteArray) (i5 : Int) (x5 : List TS1.den) (x7 : ByteArray) (x10 : List TS1.den) (x11 : Int) (x12 : Int) (x27 : Int) (x28 : Int) : PrettyMarked_l1 K (k + 1) x3 i5 x5 x7 x10 x11 x12 x27 x28 =
  br (ltI x28 x27)
  (PrettyMarked_j3 K k x3 i5 x5 x7 x10 x11 x12 x27 x28)
  (chk (nleI (ByteArray.size x3 + ByteArray.size x7) 9223372036854775807) (PrettyMarked_l0 K k (ByteArray.append x3 x7) x10 x11 (IntKind.i64.wrap (x12 + 1)))) := by kernel_rfl
theorem PrettyMarked_j3_eq (K k : Nat) (x3 : ByteArray) (i5 : Int) (x5 : List TS1.den) (x7 : ByteArray) (x10 : List TS1.den) (x11 : Int) (x12 : Int) (x27 : Int) (x28 : Int) : PrettyMarked_j3 K (k + 1) x3 i5 x5 x7 x10 x11 x12 x27 x28 =
  chk (leI 0 x28) (chk (ltI x28 (ByteArray.size ((nth TS1 x5 i5).2) : Int)) (br (eqI (bt ((nth TS1 x5 i5).2) x28) 38)
  (chk (nleI (ByteArray.size x3 + ByteArray.size (⟨#[38, 97, 109, 112, 59]⟩ : ByteArray)) 9223372036854775807) (PrettyMarked_l1 K k (ByteArray.append x3 (⟨#[38, 97, 109, 112, 59]⟩ : ByteArray)) i5 x5 x7 x10 x11 x12 x27 (IntKind.i64.wrap (x28 + 1))))
  (br (eqI (bt ((nth TS1 x5 i5).2) x28) 39)
   (chk (nleI (ByteArray.size x3 + ByteArray.size (⟨#[38, 35, 51, 57, 59]⟩ : ByteArray)) 9223372036854775807) (PrettyMarked_l1 K k (ByteArray.append x3 (⟨#[38, 35, 51, 57, 59]⟩ : ByteArray)) i5 x5 x7 x10 x11 x12 x27 (IntKind.i64.wrap (x28 + 1))))
   (br (eqI (bt ((nth TS1 x5 i5).2) x28) 60)
    (chk (nleI (ByteArray.size x3 + ByteArray.size (⟨#[38, 108, 116, 59]⟩ : ByteArray)) 9223372036854775807) (PrettyMarked_l1 K k (ByteArray.append x3 (⟨#[38, 108, 116, 59]⟩ : ByteArray)) i5 x5 x7 x10 x11 x12 x27 (IntKind.i64.wrap (x28 + 1))))
    (br (eqI (bt ((nth TS1 x5 i5).2) x28) 62)
     (chk (nleI (ByteArray.size x3 + ByteArray.size (⟨#[38, 103, 116, 59]⟩ : ByteArray)) 9223372036854775807) (PrettyMarked_l1 K k (ByteArray.append x3 (⟨#[38, 103, 116, 59]⟩ : ByteArray)) i5 x5 x7 x10 x11 x12 x27 (IntKind.i64.wrap (x28 + 1))))
     (br (eqI (bt ((nth TS1 x5 i5).2) x28) 34)
      (chk (nleI (ByteArray.size x3 + ByteArray.size (⟨#[38, 35, 51, 52, 59]⟩ : ByteArray)) 9223372036854775807) (PrettyMarked_l1 K k (ByteArray.append x3 (⟨#[38, 35, 51, 52, 59]⟩ : ByteArray)) i5 x5 x7 x10 x11 x12 x27 (IntKind.i64.wrap (x28 + 1))))
      (br (eqI (bt ((nth TS1 x5 i5).2) x28) 10)
       (chk (nleI (ByteArray.size x3 + ByteArray.size (⟨#[38, 112, 97, 114, 97, 59, 60, 98, 114, 62]⟩ : ByteArray)) 9223372036854775807) (PrettyMarked_l1 K k (ByteArray.append x3 (⟨#[38, 112, 97, 114, 97, 59, 60, 98, 114, 62]⟩ : ByteArray)) i5 x5 x7 x10 x11 x12 x27 (IntKind.i64.wrap (x28 + 1))))
       (chk (leI 0 x28) (chk (leI x28 (IntKind.i64.wrap (x28 + 1))) (chk (leI (IntKind.i64.wrap (x28 + 1)) (ByteArray.size ((nth TS1 x5 i5).2) : Int)) (chk (nleI (ByteArray.size x3 + ByteArray.size (ByteArray.extract ((nth TS1 x5 i5).2) (Int.toNat x28) (Int.toNat (IntKind.i64.wrap (x28 + 1))))) 9223372036854775807) (PrettyMarked_l1 K k (ByteArray.append x3 (ByteArray.extract ((nth TS1 x5 i5).2) (Int.toNat x28) (Int.toNat (IntKind.i64.wrap (x28 + 1))))) i5 x5 x7 x10 x11 x12 x27 (IntKind.i64.wrap (x28 + 1)))))))))))))) := by kernel_rfl
theorem zzFits4_eq (K : Nat) (x0 : TS1.den) : zzFits4 (K + 1) x0 =
  br (ltI 2147483647 (ByteArray.size x0.2 : Int))
  (some false)
  (some true) := by kernel_rfl
theorem CleanRight_eq (K : Nat) (x0 : List TS1.den) (x1 : Int) (x2 : Int) (x3 : Bool) : CleanRight (K + 1) x0 x1 x2 x3 =
  br (ltI x1 (List.length x0 : Int))
  (some false)
  (CleanRight_j0 K K x0 x2 x3) := by kernel_rfl
theorem CleanRight_j0_eq (K k : Nat) (x0 : List TS1.den) (x2 : Int) (x3 : Bool) : CleanRight_j0 K (k + 1) x0 x2 x3 =
  CleanRight_l0 K k x2 x3 x0 (List.length x0 : Int) 0 := by kernel_rfl
theorem CleanRight_l0_eq (K k : Nat) (x2 : Int) (x3 : Bool) (x16 : List TS1.den) (x17 : Int) (x18 : Int) : CleanRight_l0 K (k + 1) x2 x3 x16 x17 x18 =
  br (ltI x18 x17)
  (CleanRight_j1 K k x2 x3 x16 x17 x18)
  (some true) := by kernel_rfl
theorem CleanRight_j1_eq (K k : Nat) (x2 : Int) (x3 : Bool) (x16 : List TS1.den) (x17 : Int) (x18 : Int) : CleanRight_j1 K (k + 1) x2 x3 x16 x17 x18 =
  chk (leI 0 x18) (chk (ltI x18 (List.length x16 : Int)) (br (ltI ((nth TS1 x16 x18).1) (-1))
  (CleanRight_j2 K k x2 x3 0 [(nth TS1 x16 x18)] x16 x17 x18 true)
  (br (ltI 1 ((nth TS1 x16 x18).1))
   (CleanRight_j2 K k x2 x3 0 [(nth TS1 x16 x18)] x16 x17 x18 true)
   (br (eqS ((nth TS1 x16 x18).2) (⟨#[]⟩ : ByteArray))
    (CleanRight_j2 K k x2 x3 0 [(nth TS1 x16 x18)] x16 x17 x18 true)
    (Option.bind (CleanChars K ((nth TS1 x16 x18).2) x2) fun t1 =>
     CleanRight_j2 K k x2 x3 0 [(nth TS1 x16 x18)] x16 x17 x18 (!t1)))))) := by kernel_rfl
theorem CleanRight_j2_eq (K k : Nat) (x2 : Int) (x3 : Bool) (i10 : Int) (x10 : List TS1.den) (x16 : List TS1.den) (x17 : Int) (x18 : Int) (x41 : Bool) : CleanRight_j2 K (k + 1) x2 x3 i10 x10 x16 x17 x18 x41 =
  br x41
  (some false)
  (CleanRight_j3 K k x2 x3 i10 x10 x16 x17 x18) := by kernel_rfl
theorem CleanRight_j3_eq (K k : Nat) (x2 : Int) (x3 : Bool) (i10 : Int) (x10 : List TS1.den) (x16 : List TS1.den) (x17 : Int) (x18 : Int) : CleanRight_j3 K (k + 1) x2 x3 i10 x10 x16 x17 x18 =
  CleanRight_l1 K k x2 x3 i10 x10 0 x16 x17 x18 := by kernel_rfl
theorem CleanRight_l1_eq (K k : Nat) (x2 : Int) (x3 : Bool) (i10 : Int) (x10 : List TS1.den) (x11 : Int) (x16 : List TS1.den) (x17 : Int) (x18 : Int) : CleanRight_l1 K (k + 1) x2 x3 i10 x10 x11 x16 x17 x18 =
  br (ltI x11 (ByteArray.size ((nth TS1 x10 i10).2) : Int))
  (br x3
   (CleanRight_j4 K k x2 x3 i10 x10 x11 x16 x17 x18)
   (CleanRight_l0 K k x2 x3 x16 x17 (IntKind.i64.wrap (x18 + 1))))
  (CleanRight_l0 K k x2 x3 x16 x17 (IntKind.i64.wrap (x18 + 1))) := by kernel_rfl
theorem CleanRight_j4_eq (K k : Nat) (x2 : Int) (x3 : Bool) (i10 : Int) (x10 : List TS1.den) (x11 : Int) (x16 : List TS1.den) (x17 : Int) (x18 : Int) : CleanRight_j4 K (k + 1) x2 x3 i10 x10 x11 x16 x17 x18 =
  chk (leI 0 x11) (chk (ltI x11 (ByteArray.size ((nth TS1 x10 i10).2) : Int)) (br (ltI 126 (bt ((nth TS1 x10 i10).2) x11))
  (some false)
  (CleanRight_l1 K k x2 x3 i10 x10 (IntKind.i64.wrap (x11 + 1)) x16 x17 x18))) := by kernel_rfl
theorem plain_eq (K : Nat) : plain (K + 1) =
  Option.bind (diffmatchpatch_New K) fun t1 =>
  some (0, (t1.2.1, (t1.2.2.1, (t1.2.2.2.1, (t1.2.2.2.2.1, (t1.2.2.2.2.2.1, t1.2.2.2.2.2.2)))))) := by kernel_rfl
theorem DiffFromDelta_eq (K : Nat) (x0 : TS2.den) (x1 : ByteArray) (x2 : ByteArray) : DiffFromDelta (K + 1) x0 x1 x2 =
  chk (nleI (List.length (runesI x1)) 70368744177664) (Option.bind (zzSplit K x2 (⟨#[9]⟩ : ByteArray)) fun t1 =>
  DiffFromDelta_l0 K K x1 [] 0 (runesI x1) t1 (List.length t1 : Int) 0) := by kernel_rfl
theorem DiffFromDelta_l0_eq (K k : Nat) (x1 : ByteArray) (x6 : List TS0.den) (x8 : Int) (x9 : List Int) (x20 : List ByteArray) (x21 : Int) (x22 : Int) : DiffFromDelta_l0 K (k + 1) x1 x6 x8 x9 x20 x21 x22 =
  br (ltI x22 x21)
  (DiffFromDelta_j0 K k x1 x6 x8 x9 x20 x21 x22)
  (DiffFromDelta_j1 K k x1 x6 x8 x9) := by kernel_rfl
theorem DiffFromDelta_j0_eq (K k : Nat) (x1 : ByteArray) (x6 : List TS0.den) (x8 : Int) (x9 : List Int) (x20 : List ByteArray) (x21 : Int) (x22 : Int) : DiffFromDelta_j0 K (k + 1) x1 x6 x8 x9 x20 x21 x22 =
  chk (leI 0 x22) (chk (ltI x22 (List.length x20 : Int)) (br (eqI (ByteArray.size (nth .str x20 x22) : Int) 0)
  (DiffFromDelta_l0 K k x1 x6 x8 x9 x20 x21 (IntKind.i64.wrap (x22 + 1)))
  (DiffFromDelta_j2 K k x1 x6 x8 x9 (nth .str x20 x22) x20 x21 x22))) := by kernel_rfl
theorem DiffFromDelta_j1_eq (K k : Nat) (x1 : ByteArray) (x6 : List TS0.den) (x8 : Int) (x9 : List Int) : DiffFromDelta_j1 K (k + 1) x1 x6 x8 x9 =
  br (!eqI x8 (List.length x9 : Int))
  (Option.bind (Itoa K x8) fun t2 =>
   chk (nleI (ByteArray.size (⟨#[68, 101, 108, 116, 97, 32, 108, 101, 110, 103, 116, 104, 32, 40]⟩ : ByteArray) + ByteArray.size t2) 9223372036854775807) (chk (nleI (ByteArray.size (ByteArray.append (⟨#[68, 101, 108, 116, 97, 32, 108, 101, 110, 103, 116, 104, 32, 40]⟩ : ByteArray) t2) + ByteArray.size (⟨#[41, 32, 105, 115, 32, 100, 105, 102, 102, 101, 114, 101, 110, 116, 32, 102, 114, 111, 109, 32, 115, 111, 117, 114, 99, 101, 32, 116, 101, 120, 116, 32, 108, 101, 110, 103, 116, 104, 32, 40]⟩ : ByteArray)) 9223372036854775807) (Option.bind (Itoa K (ByteArray.size x1 : Int)) fun t3 =>
   chk (nleI (ByteArray.size (ByteArray.append (ByteArray.append (⟨#[68, 101, 108, 116, 97, 32, 108, 101, 110, 103, 116, 104, 32, 40]⟩ : ByteArray) t2) (⟨#[41, 32, 105, 115, 32, 100, 105, 102, 102, 101, 114, 101, 110, 116, 32, 102, 114, 111, 109, 32, 115, 111, 117, 114, 99, 101, 32, 116, 101, 120, 116, 32, 108, 101, 110, 103, 116, 104, 32, 40]⟩ : ByteArray)) + ByteArray.size t3) 9223372036854775807) (chk (nleI (ByteArray.size (ByteArray.append (ByteArray.append (ByteArray.append (⟨#[68, 101, 108, 116, 97, 32, 108, 101, 110, 103, 116, 104, 32, 40]⟩ : ByteArray) t2) (⟨#[41, 32, 105, 115, 32, 100, 105, 102, 102, 101, 114, 101, 110, 116, 32, 102, 114, 111, 109, 32, 115, 111, 117, 114, 99, 101, 32, 116, 101, 120, 116, 32, 108, 101, 110, 103, 116, 104, 32, 40]⟩ : ByteArray)) t3) + ByteArray.size (⟨#[41]⟩ : ByteArray)) 9223372036854775807) (Option.bind (errors_New K (ByteArray.append (ByteArray.append (ByteArray.append (ByteArray.append (⟨#[68, 101, 108, 116, 97, 32, 108, 101, 110, 103, 116, 104, 32, 40]⟩ : ByteArray) t2) (⟨#[41, 32, 105, 115, 32, 100, 105, 102, 102, 101, 114, 101, 110, 116, 32, 102, 114, 111, 109, 32, 115, 111, 117, 114, 99, 101, 32, 116, 101, 120, 116, 32, 108, 101, 110, 103, 116, 104, 32, 40]⟩ : ByteArray)) t3) (⟨#[41]⟩ : ByteArray))) fun t4 =>
   some ([], t4))))))
  (some (x6, ())) := by kernel_rfl
theorem DiffFromDelta_j2_eq (K k : Nat) (x1 : ByteArray) (x6 : List TS0.den) (x8 : Int) (x9 : List Int) (x11 : ByteArray) (x20 : List ByteArray) (x21 : Int) (x22 : Int) : DiffFromDelta_j2 K (k + 1) x1 x6 x8 x9 x11 x20 x21 x22 =
  chk (leI 0 1) (chk (leI 1 (ByteArray.size x11 : Int)) (chk (leI (ByteArray.size x11 : Int) (ByteArray.size x11 : Int)) (chk (leI 0 0) (chk (ltI 0 (ByteArray.size x11 : Int)) (br (eqI (bt x11 0) 43)
  (Option.bind (zzReplace K (ByteArray.extract x11 (Int.toNat 1) (Int.toNat (ByteArray.size x11 : Int))) (⟨#[43]⟩ : ByteArray) (⟨#[37, 50, 98]⟩ : ByteArray)) fun t5 =>
   Option.bind (zzQueryUnescape K t5) fun t6 =>
   DiffFromDelta_j3 K k x1 x6 x8 x9 t6.1 x20 x21 x22)
  (br (eqI (bt x11 0) 61)
   (DiffFromDelta_j4 K k x1 x6 x8 x9 x11 (ByteArray.extract x11 (Int.toNat 1) (Int.toNat (ByteArray.size x11 : Int))) (bt x11 0) x20 x21 x22 (eqI (bt x11 0) 61))
   (DiffFromDelta_j4 K k x1 x6 x8 x9 x11 (ByteArray.extract x11 (Int.toNat 1) (Int.toNat (ByteArray.size x11 : Int))) (bt x11 0) x20 x21 x22 (eqI (bt x11 0) 45)))))))) := by kernel_rfl
theorem DiffFromDelta_j3_eq (K k : Nat) (x1 : ByteArray) (x6 : List TS0.den) (x8 : Int) (x9 : List Int) (x12 : ByteArray) (x20 : List ByteArray) (x21 : Int) (x22 : Int) : DiffFromDelta_j3 K (k + 1) x1 x6 x8 x9 x12 x20 x21 x22 =
  Option.bind (ValidString K x12) fun t7 =>
  br (!t7)
  (Option.bind (errors_New K (⟨#[105, 110, 118, 97, 108, 105, 100, 32, 85, 84, 70, 45, 56, 32, 116, 111, 107, 101, 110]⟩ : ByteArray)) fun t8 =>
   some ([], t8))
  (DiffFromDelta_j5 K k x1 x6 x8 x9 x12 x20 x21 x22) := by kernel_rfl
theorem DiffFromDelta_j4_eq (K k : Nat) (x1 : ByteArray) (x6 : List TS0.den) (x8 : Int) (x9 : List Int) (x11 : ByteArray) (x12 : ByteArray) (x13 : Int) (x20 : List ByteArray) (x21 : Int) (x22 : Int) (x60 : Bool) : DiffFromDelta_j4 K (k + 1) x1 x6 x8 x9 x11 x12 x13 x20 x21 x22 x60 =
  br x60
  (Option.bind (ParseInt K x12 10 0) fun t9 =>
   br (ltI t9.1 0)
   (chk (nleI (ByteArray.size (⟨#[78, 101, 103, 97, 116, 105, 118, 101, 32, 110, 117, 109, 98, 101, 114, 32, 105, 110, 32, 68, 105, 102, 102, 70, 114, 111, 109, 68, 101, 108, 116, 97, 58, 32]⟩ : ByteArray) + ByteArray.size x12) 9223372036854775807) (Option.bind (errors_New K (ByteArray.append (⟨#[78, 101, 103, 97, 116, 105, 118, 101, 32, 110, 117, 109, 98, 101, 114, 32, 105, 110, 32, 68, 105, 102, 102, 70, 114, 111, 109, 68, 101, 108, 116, 97, 58, 32]⟩ : ByteArray) x12)) fun t10 =>
    some ([], t10)))
   (DiffFromDelta_j6 K k x1 x6 x8 x9 x13 t9.1 x20 x21 x22))
  (chk (leI 0 0) (chk (ltI 0 (ByteArray.size x11 : Int)) (none))) := by kernel_rfl
theorem DiffFromDelta_j5_eq (K k : Nat) (x1 : ByteArray) (x6 : List TS0.den) (x8 : Int) (x9 : List Int) (x12 : ByteArray) (x20 : List ByteArray) (x21 : Int) (x22 : Int) : DiffFromDelta_j5 K (k + 1) x1 x6 x8 x9 x12 x20 x21 x22 =
  chk (ltI ((List.length x6 : Int) + (List.length ([(1, x12)] : List TS0.den) : Int)) 1000000000000) (DiffFromDelta_l0 K k x1 (x6 ++ ([(1, x12)] : List TS0.den)) x8 x9 x20 x21 (IntKind.i64.wrap (x22 + 1))) := by kernel_rfl
theorem DiffFromDelta_j6_eq (K k : Nat) (x1 : ByteArray) (x6 : List TS0.den) (x8 : Int) (x9 : List Int) (x13 : Int) (x14 : Int) (x20 : List ByteArray) (x21 : Int) (x22 : Int) : DiffFromDelta_j6 K (k + 1) x1 x6 x8 x9 x13 x14 x20 x21 x22 =
  br (ltI (List.length x9 : Int) (IntKind.i64.wrap (x8 + x14)))
  (DiffFromDelta_l0 K k x1 x6 (IntKind.i64.wrap (x8 + x14)) x9 x20 x21 (IntKind.i64.wrap (x22 + 1)))
  (DiffFromDelta_j7 K k x1 x6 (IntKind.i64.wrap (x8 + x14)) x9 x13 x14 x20 x21 x22) := by kernel_rfl
theorem DiffFromDelta_j7_eq (K k : Nat) (x1 : ByteArray) (x6 : List TS0.den) (x8 : Int) (x9 : List Int) (x13 : Int) (x14 : Int) (x20 : List ByteArray) (x21 : Int) (x22 : Int) : DiffFromDelta_j7 K (k + 1) x1 x6 x8 x9 x13 x14 x20 x21 x22 =
  chk (leI 0 (IntKind.i64.wrap (x8 - x14))) (chk (leI (IntKind.i64.wrap (x8 - x14)) x8) (chk (leI x8 (List.length x9 : Int)) (br (eqI x13 61)
  (chk (ltI ((List.length x6 : Int) + (List.length ([(0, (strOfRunes (List.take (Int.toNat x8 - Int.toNat (IntKind.i64.wrap (x8 - x14))) (List.drop (Int.toNat (IntKind.i64.wrap (x8 - x14))) x9))))] : List TS0.den) : Int)) 1000000000000) (DiffFromDelta_l0 K k x1 (x6 ++ ([(0, (strOfRunes (List.take (Int.toNat x8 - Int.toNat (IntKind.i64.wrap (x8 - x14))) (List.drop (Int.toNat (IntKind.i64.wrap (x8 - x14))) x9))))] : List TS0.den)) x8 x9 x20 x21 (IntKind.i64.wrap (x22 + 1))))
  (chk (ltI ((List.length x6 : Int) + (List.length ([((-1), (strOfRunes (List.take (Int.toNat x8 - Int.toNat (IntKind.i64.wrap (x8 - x14))) (List.drop (Int.toNat (IntKind.i64.wrap (x8 - x14))) x9))))] : List TS0.den) : Int)) 1000000000000) (DiffFromDelta_l0 K k x1 (x6 ++ ([((-1), (strOfRunes (List.take (Int.toNat x8 - Int.toNat (IntKind.i64.wrap (x8 - x14))) (List.drop (Int.toNat (IntKind.i64.wrap (x8 - x14))) x9))))] : List TS0.den)) x8 x9 x20 x21 (IntKind.i64.wrap (x22 + 1))))))) := by kernel_rfl
theorem back_eq (K : Nat) (x0 : List TS0.den) : back (K + 1) x0 =
  back_l0 K K [] x0 (List.length x0 : Int) 0 := by kernel_rfl
theorem back_l0_eq (K k : Nat) (x3 : List TS1.den) (x6 : List TS0.den) (x7 : Int) (x8 : Int) : back_l0 K (k + 1) x3 x6 x7 x8 =
  br (ltI x8 x7)
  (back_j0 K k x3 x6 x7 x8)
  (some x3) := by kernel_rfl
theorem back_j0_eq (K k : Nat) (x3 : List TS1.den) (x6 : List TS0.den) (x7 : Int) (x8 : Int) : back_j0 K (k + 1) x3 x6 x7 x8 =
  chk (leI 0 x8) (chk (ltI x8 (List.length x6 : Int)) (chk (ltI ((List.length x3 : Int) + (List.length ([((IntKind.i64.wrap ((nth TS0 x6 x8).1)), (nth TS0 x6 x8).2)] : List TS1.den) : Int)) 1000000000000) (back_l0 K k (x3 ++ ([((IntKind.i64.wrap ((nth TS0 x6 x8).1)), (nth TS0 x6 x8).2)] : List TS1.den)) x6 x7 (IntKind.i64.wrap (x8 + 1))))) := by kernel_rfl
theorem diffs_eq (K : Nat) (x0 : List TS1.den) : diffs (K + 1) x0 =
  diffs_l0 K K [] x0 (List.length x0 : Int) 0 := by kernel_rfl
theorem diffs_l0_eq (K k : Nat) (x3 : List TS0.den) (x6 : List TS1.den) (x7 : Int) (x8 : Int) : diffs_l0 K (k + 1) x3 x6 x7 x8 =
  br (ltI x8 x7)
  (diffs_j0 K k x3 x6 x7 x8)
  (some x3) := by kernel_rfl
theorem diffs_j0_eq (K k : Nat) (x3 : List TS0.den) (x6 : List TS1.den) (x7 : Int) (x8 : Int) : diffs_j0 K (k + 1) x3 x6 x7 x8 =
  chk (leI 0 x8) (chk (ltI x8 (List.length x6 : Int)) (chk (ltI ((List.length x3 : Int) + (List.length ([((IntKind.i8.wrap ((nth TS1 x6 x8).1)), (nth TS1 x6 x8).2)] : List TS0.den) : Int)) 1000000000000) (diffs_l0 K k (x3 ++ ([((IntKind.i8.wrap ((nth TS1 x6 x8).1)), (nth TS1 x6 x8).2)] : List TS0.den)) x6 x7 (IntKind.i64.wrap (x8 + 1))))) := by kernel_rfl
end Go.Proofs.YtfefjbifdbfmjaaDoor.E
