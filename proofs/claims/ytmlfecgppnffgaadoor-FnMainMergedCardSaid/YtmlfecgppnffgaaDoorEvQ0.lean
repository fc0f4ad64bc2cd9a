import Derived.Test.YtmlfecgppnffgaaDoorEvT
/- Written by a program of this session (wip/tools/mkev.py): what the functions' places evaluate to. Not trusted: Lean checks it. -/
namespace Go.Proofs.YtmlfecgppnffgaaDoor.E
open Go.Ev
theorem FnMainBack_eq (K : Nat) (x0 : ByteArray) (x1 : ByteArray) : FnMainBack (K + 1) x0 x1 =
  br (ltI 2147483647 (ByteArray.size x0 : Int))
  (FnMainBack_j0 K K x0 x1 true)
  (FnMainBack_j0 K K x0 x1 (ltI 2147483647 (ByteArray.size x1 : Int))) := by kernel_rfl
theorem FnMainBack_j0_eq (K k : Nat) (x0 : ByteArray) (x1 : ByteArray) (x16 : Bool) : FnMainBack_j0 K (k + 1) x0 x1 x16 =
  br x16
  (some true)
  (FnMainBack_j1 K k x0 x1) := by kernel_rfl
theorem FnMainBack_j1_eq (K k : Nat) (x0 : ByteArray) (x1 : ByteArray) : FnMainBack_j1 K (k + 1) x0 x1 =
  Option.bind (IsDiffText K x0 120) fun t1 =>
  br (!t1)
  (FnMainBack_j2 K k x0 x1 true)
  (Option.bind (IsDiffText K x1 120) fun t2 =>
   FnMainBack_j2 K k x0 x1 (!t2)) := by kernel_rfl
theorem FnMainBack_j2_eq (K k : Nat) (x0 : ByteArray) (x1 : ByteArray) (x24 : Bool) : FnMainBack_j2 K (k + 1) x0 x1 x24 =
  br x24
  (some true)
  (FnMainBack_j3 K k x0 x1) := by kernel_rfl
theorem FnMainBack_j3_eq (K k : Nat) (x0 : ByteArray) (x1 : ByteArray) : FnMainBack_j3 K (k + 1) x0 x1 =
  Option.bind (Main K x0 x1 false) fun t3 =>
  Option.bind (diffOf K t3) fun t4 =>
  Option.bind (DiffEdits K t4) fun t5 =>
  Option.bind (Main K x1 x0 false) fun t6 =>
  Option.bind (diffOf K t6) fun t7 =>
  Option.bind (DiffEdits K t7) fun t8 =>
  br (eqI t5.1 t8.2)
  (br (eqI t5.2 t8.1)
   (Option.bind (diffAwake K) fun t9 =>
    some t9)
   (some false))
  (some false) := by kernel_rfl
theorem FnMainLeast_eq (K : Nat) (x0 : ByteArray) (x1 : ByteArray) : FnMainLeast (K + 1) x0 x1 =
  br (ltI 2147483647 (ByteArray.size x0 : Int))
  (FnMainLeast_j0 K K x0 x1 true)
  (FnMainLeast_j0 K K x0 x1 (ltI 2147483647 (ByteArray.size x1 : Int))) := by kernel_rfl
theorem FnMainLeast_j0_eq (K k : Nat) (x0 : ByteArray) (x1 : ByteArray) (x14 : Bool) : FnMainLeast_j0 K (k + 1) x0 x1 x14 =
  br x14
  (some true)
  (FnMainLeast_j1 K k x0 x1) := by kernel_rfl
theorem FnMainLeast_j1_eq (K k : Nat) (x0 : ByteArray) (x1 : ByteArray) : FnMainLeast_j1 K (k + 1) x0 x1 =
  Option.bind (IsDiffText K x0 60) fun t1 =>
  br (!t1)
  (FnMainLeast_j2 K k x0 x1 true)
  (Option.bind (IsDiffText K x1 60) fun t2 =>
   FnMainLeast_j2 K k x0 x1 (!t2)) := by kernel_rfl
theorem FnMainLeast_j2_eq (K k : Nat) (x0 : ByteArray) (x1 : ByteArray) (x22 : Bool) : FnMainLeast_j2 K (k + 1) x0 x1 x22 =
  br x22
  (some true)
  (FnMainLeast_j3 K k x0 x1) := by kernel_rfl
theorem FnMainLeast_j3_eq (K k : Nat) (x0 : ByteArray) (x1 : ByteArray) : FnMainLeast_j3 K (k + 1) x0 x1 =
  Option.bind (Main K x0 x1 false) fun t3 =>
  Option.bind (diffOf K t3) fun t4 =>
  Option.bind (DiffEdits K t4) fun t5 =>
  Option.bind (DiffLeast K x0 x1) fun t6 =>
  br (eqI (IntKind.i64.wrap (t5.1 + t5.2)) t6)
  (Option.bind (diffAwake K) fun t7 =>
   some t7)
  (some false) := by kernel_rfl
theorem FnMainMerged_eq (K : Nat) (x0 : ByteArray) (x1 : ByteArray) : FnMainMerged (K + 1) x0 x1 =
  br (ltI 2147483647 (ByteArray.size x0 : Int))
  (FnMainMerged_j0 K K x0 x1 true)
  (FnMainMerged_j0 K K x0 x1 (ltI 2147483647 (ByteArray.size x1 : Int))) := by kernel_rfl
theorem FnMainMerged_j0_eq (K k : Nat) (x0 : ByteArray) (x1 : ByteArray) (x12 : Bool) : FnMainMerged_j0 K (k + 1) x0 x1 x12 =
  br x12
  (some true)
  (FnMainMerged_j1 K k x0 x1) := by kernel_rfl
theorem FnMainMerged_j1_eq (K k : Nat) (x0 : ByteArray) (x1 : ByteArray) : FnMainMerged_j1 K (k + 1) x0 x1 =
  Option.bind (IsDiffText K x0 100) fun t1 =>
  br (!t1)
  (FnMainMerged_j2 K k x0 x1 true)
  (Option.bind (IsDiffText K x1 100) fun t2 =>
   FnMainMerged_j2 K k x0 x1 (!t2)) := by kernel_rfl
theorem FnMainMerged_j2_eq (K k : Nat) (x0 : ByteArray) (x1 : ByteArray) (x20 : Bool) : FnMainMerged_j2 K (k + 1) x0 x1 x20 =
  br x20
  (some true)
  (FnMainMerged_j3 K k x0 x1) := by kernel_rfl
theorem FnMainMerged_j3_eq (K k : Nat) (x0 : ByteArray) (x1 : ByteArray) : FnMainMerged_j3 K (k + 1) x0 x1 =
  Option.bind (Main K x0 x1 false) fun t3 =>
  Option.bind (diffOf K t3) fun t4 =>
  Option.bind (IsDiffMerged K t4) fun t5 =>
  br t5
  (Option.bind (diffAwake K) fun t6 =>
   some t6)
  (some false) := by kernel_rfl
theorem FnMainSame_eq (K : Nat) (x0 : ByteArray) (x1 : Bool) : FnMainSame (K + 1) x0 x1 =
  br (ltI 2147483647 (ByteArray.size x0 : Int))
  (some true)
  (FnMainSame_j0 K K x0 x1) := by kernel_rfl
theorem FnMainSame_j0_eq (K k : Nat) (x0 : ByteArray) (x1 : Bool) : FnMainSame_j0 K (k + 1) x0 x1 =
  Option.bind (IsDiffText K x0 200) fun t1 =>
  br (!t1)
  (some true)
  (FnMainSame_j1 K k x0 x1) := by kernel_rfl
theorem FnMainSame_j1_eq (K k : Nat) (x0 : ByteArray) (x1 : Bool) : FnMainSame_j1 K (k + 1) x0 x1 =
  br (!(eqS x0 (⟨#[]⟩ : ByteArray)))
  (FnMainSame_j2 K k x0 x1 ([(0, x0)] : List TS0.den))
  (FnMainSame_j2 K k x0 x1 []) := by kernel_rfl
theorem FnMainSame_j2_eq (K k : Nat) (x0 : ByteArray) (x1 : Bool) (x5 : List TS0.den) : FnMainSame_j2 K (k + 1) x0 x1 x5 =
  Option.bind (Main K x0 x0 x1) fun t2 =>
  Option.bind (diffOf K t2) fun t3 =>
  Option.bind (sameDiffs K t3 x5) fun t4 =>
  br t4
  (Option.bind (diffAwake K) fun t5 =>
   some t5)
  (some false) := by kernel_rfl
theorem FnMainWithin_eq (K : Nat) (x0 : ByteArray) (x1 : ByteArray) (x2 : ByteArray) : FnMainWithin (K + 1) x0 x1 x2 =
  br (ltI 2147483647 (ByteArray.size x0 : Int))
  (FnMainWithin_j0 K K x0 x1 x2 true)
  (br (ltI 2147483647 (ByteArray.size x1 : Int))
   (FnMainWithin_j0 K K x0 x1 x2 true)
   (FnMainWithin_j0 K K x0 x1 x2 (ltI 2147483647 (ByteArray.size x2 : Int)))) := by kernel_rfl
theorem FnMainWithin_j0_eq (K k : Nat) (x0 : ByteArray) (x1 : ByteArray) (x2 : ByteArray) (x24 : Bool) : FnMainWithin_j0 K (k + 1) x0 x1 x2 x24 =
  br x24
  (some true)
  (FnMainWithin_j1 K k x0 x1 x2) := by kernel_rfl
theorem FnMainWithin_j1_eq (K k : Nat) (x0 : ByteArray) (x1 : ByteArray) (x2 : ByteArray) : FnMainWithin_j1 K (k + 1) x0 x1 x2 =
  Option.bind (IsDiffText K x0 60) fun t1 =>
  br (!t1)
  (FnMainWithin_j2 K k x0 x1 x2 true)
  (Option.bind (IsDiffText K x1 60) fun t2 =>
   br (!t2)
   (FnMainWithin_j2 K k x0 x1 x2 true)
   (Option.bind (IsDiffText K x2 60) fun t3 =>
    FnMainWithin_j2 K k x0 x1 x2 (!t3))) := by kernel_rfl
theorem FnMainWithin_j2_eq (K k : Nat) (x0 : ByteArray) (x1 : ByteArray) (x2 : ByteArray) (x37 : Bool) : FnMainWithin_j2 K (k + 1) x0 x1 x2 x37 =
  br x37
  (some true)
  (FnMainWithin_j3 K k x0 x1 x2) := by kernel_rfl
theorem FnMainWithin_j3_eq (K k : Nat) (x0 : ByteArray) (x1 : ByteArray) (x2 : ByteArray) : FnMainWithin_j3 K (k + 1) x0 x1 x2 =
  chk (nleI (ByteArray.size x0 + ByteArray.size x1) 9223372036854775807) (chk (nleI (ByteArray.size (ByteArray.append x0 x1) + ByteArray.size x2) 9223372036854775807) (Option.bind (Main K x1 (ByteArray.append (ByteArray.append x0 x1) x2) false) fun t4 =>
  Option.bind (diffOf K t4) fun t5 =>
  Option.bind (DiffEdits K t5) fun t6 =>
  chk (nleI (ByteArray.size x0 + ByteArray.size x1) 9223372036854775807) (chk (nleI (ByteArray.size (ByteArray.append x0 x1) + ByteArray.size x2) 9223372036854775807) (Option.bind (Main K (ByteArray.append (ByteArray.append x0 x1) x2) x1 false) fun t7 =>
  Option.bind (diffOf K t7) fun t8 =>
  Option.bind (DiffEdits K t8) fun t9 =>
  Option.bind (RuneCountInString K x0) fun t10 =>
  Option.bind (RuneCountInString K x2) fun t11 =>
  br (eqI t6.1 (IntKind.i64.wrap (t10 + t11)))
  (br (eqI t6.2 0)
   (br (eqI t9.1 0)
    (br (eqI t9.2 (IntKind.i64.wrap (t10 + t11)))
     (Option.bind (diffAwake K) fun t12 =>
      some t12)
     (some false))
    (some false))
   (some false))
  (some false))))) := by kernel_rfl
theorem FnBisect_eq (K : Nat) (x0 : ByteArray) (x1 : ByteArray) : FnBisect (K + 1) x0 x1 =
  br (ltI 2147483647 (ByteArray.size x0 : Int))
  (FnBisect_j0 K K x0 x1 true)
  (FnBisect_j0 K K x0 x1 (ltI 2147483647 (ByteArray.size x1 : Int))) := by kernel_rfl
theorem FnBisect_j0_eq (K k : Nat) (x0 : ByteArray) (x1 : ByteArray) (x15 : Bool) : FnBisect_j0 K (k + 1) x0 x1 x15 =
  br x15
  (some true)
  (FnBisect_j1 K k x0 x1) := by kernel_rfl
theorem FnBisect_j1_eq (K k : Nat) (x0 : ByteArray) (x1 : ByteArray) : FnBisect_j1 K (k + 1) x0 x1 =
  br (eqS x0 (⟨#[]⟩ : ByteArray))
  (FnBisect_j2 K k x0 x1 true)
  (br (eqS x1 (⟨#[]⟩ : ByteArray))
   (FnBisect_j2 K k x0 x1 true)
   (Option.bind (IsDiffText K x0 60) fun t1 =>
    br (!t1)
    (FnBisect_j2 K k x0 x1 true)
    (Option.bind (IsDiffText K x1 60) fun t2 =>
     br (!t2)
     (FnBisect_j2 K k x0 x1 true)
     (Option.bind (RuneCountInString K x0) fun t3 =>
      Option.bind (RuneCountInString K x1) fun t4 =>
      FnBisect_j2 K k x0 x1 (ltI (IntKind.i64.wrap (t3 + t4)) 3))))) := by kernel_rfl
theorem FnBisect_j2_eq (K k : Nat) (x0 : ByteArray) (x1 : ByteArray) (x39 : Bool) : FnBisect_j2 K (k + 1) x0 x1 x39 =
  br x39
  (some true)
  (FnBisect_j3 K k x0 x1) := by kernel_rfl
theorem FnBisect_j3_eq (K k : Nat) (x0 : ByteArray) (x1 : ByteArray) : FnBisect_j3 K (k + 1) x0 x1 =
  Option.bind (Bisect K x0 x1) fun t5 =>
  Option.bind (diffOf K t5) fun t6 =>
  Option.bind (DiffEdits K t6) fun t7 =>
  Option.bind (leads K t6 x0 x1) fun t8 =>
  br t8
  (Option.bind (DiffLeast K x0 x1) fun t9 =>
   br (eqI (IntKind.i64.wrap (t7.1 + t7.2)) t9)
   (Option.bind (diffAwake K) fun t10 =>
    some t10)
   (some false))
  (some false) := by kernel_rfl
theorem FnMainDistance_eq (K : Nat) (x0 : ByteArray) (x1 : ByteArray) : FnMainDistance (K + 1) x0 x1 =
  br (ltI 2147483647 (ByteArray.size x0 : Int))
  (FnMainDistance_j0 K K x0 x1 true)
  (FnMainDistance_j0 K K x0 x1 (ltI 2147483647 (ByteArray.size x1 : Int))) := by kernel_rfl
theorem FnMainDistance_j0_eq (K k : Nat) (x0 : ByteArray) (x1 : ByteArray) (x16 : Bool) : FnMainDistance_j0 K (k + 1) x0 x1 x16 =
  br x16
  (some true)
  (FnMainDistance_j1 K k x0 x1) := by kernel_rfl
theorem FnMainDistance_j1_eq (K k : Nat) (x0 : ByteArray) (x1 : ByteArray) : FnMainDistance_j1 K (k + 1) x0 x1 =
  Option.bind (IsDiffText K x0 40) fun t1 =>
  br (!t1)
  (FnMainDistance_j2 K k x0 x1 true)
  (Option.bind (IsDiffText K x1 40) fun t2 =>
   FnMainDistance_j2 K k x0 x1 (!t2)) := by kernel_rfl
theorem FnMainDistance_j2_eq (K k : Nat) (x0 : ByteArray) (x1 : ByteArray) (x24 : Bool) : FnMainDistance_j2 K (k + 1) x0 x1 x24 =
  br x24
  (some true)
  (FnMainDistance_j3 K k x0 x1) := by kernel_rfl
theorem FnMainDistance_j3_eq (K k : Nat) (x0 : ByteArray) (x1 : ByteArray) : FnMainDistance_j3 K (k + 1) x0 x1 =
  Option.bind (Main K x0 x1 false) fun t3 =>
  Option.bind (Levenshtein K t3) fun t4 =>
  Option.bind (diffOf K t3) fun t5 =>
  Option.bind (DiffEdits K t5) fun t6 =>
  Option.bind (DiffTrueDistance K x0 x1) fun t7 =>
  br (leI t7 t4)
  (br (leI t4 (IntKind.i64.wrap (t6.1 + t6.2)))
   (br ((eqI t4 0) == (eqS x0 x1))
    (Option.bind (diffAwake K) fun t8 =>
     some t8)
    (some false))
   (some false))
  (some false) := by kernel_rfl
theorem FnXIndexMain_eq (K : Nat) (x0 : ByteArray) (x1 : ByteArray) (x2 : Int) : FnXIndexMain (K + 1) x0 x1 x2 =
  br (ltI 2147483647 (ByteArray.size x0 : Int))
  (FnXIndexMain_j0 K K x0 x1 x2 true)
  (FnXIndexMain_j0 K K x0 x1 x2 (ltI 2147483647 (ByteArray.size x1 : Int))) := by kernel_rfl
theorem FnXIndexMain_j0_eq (K k : Nat) (x0 : ByteArray) (x1 : ByteArray) (x2 : Int) (x17 : Bool) : FnXIndexMain_j0 K (k + 1) x0 x1 x2 x17 =
  br x17
  (some true)
  (FnXIndexMain_j1 K k x0 x1 x2) := by kernel_rfl
theorem FnXIndexMain_j1_eq (K k : Nat) (x0 : ByteArray) (x1 : ByteArray) (x2 : Int) : FnXIndexMain_j1 K (k + 1) x0 x1 x2 =
  Option.bind (IsDiffText K x0 80) fun t1 =>
  br (!t1)
  (FnXIndexMain_j2 K k x0 x1 x2 true)
  (Option.bind (IsDiffText K x1 80) fun t2 =>
   br (!t2)
   (FnXIndexMain_j2 K k x0 x1 x2 true)
   (br (ltI x2 0)
    (FnXIndexMain_j2 K k x0 x1 x2 true)
    (FnXIndexMain_j2 K k x0 x1 x2 (leI (ByteArray.size x0 : Int) x2)))) := by kernel_rfl
theorem FnXIndexMain_j2_eq (K k : Nat) (x0 : ByteArray) (x1 : ByteArray) (x2 : Int) (x35 : Bool) : FnXIndexMain_j2 K (k + 1) x0 x1 x2 x35 =
  br x35
  (some true)
  (FnXIndexMain_j3 K k x0 x1 x2) := by kernel_rfl
theorem FnXIndexMain_j3_eq (K k : Nat) (x0 : ByteArray) (x1 : ByteArray) (x2 : Int) : FnXIndexMain_j3 K (k + 1) x0 x1 x2 =
  Option.bind (Main K x0 x1 false) fun t3 =>
  Option.bind (XIndex K t3 x2) fun t4 =>
  Option.bind (XIndex K t3 (IntKind.i64.wrap (x2 + 1))) fun t5 =>
  br (leI 0 t4)
  (br (leI t4 t5)
   (br (leI t5 (ByteArray.size x1 : Int))
    (Option.bind (XIndex K t3 (ByteArray.size x0 : Int)) fun t6 =>
     br (eqI t6 (ByteArray.size x1 : Int))
     (Option.bind (diffAwake K) fun t7 =>
      some t7)
     (some false))
    (some false))
   (some false))
  (some false) := by kernel_rfl
theorem IsDiffText_eq (K : Nat) (x0 : ByteArray) (x1 : Int) : IsDiffText (K + 1) x0 x1 =
  br (leI (ByteArray.size x0 : Int) (IntKind.i64.wrap (4 * x1)))
  (Option.bind (ValidString K x0) fun t1 =>
   br t1
   (Option.bind (RuneCountInString K x0) fun t2 =>
    some (leI t2 x1))
   (some false))
  (some false) := by kernel_rfl
theorem leads_eq (K : Nat) (x0 : List TS0.den) (x1 : ByteArray) (x2 : ByteArray) : leads (K + 1) x0 x1 x2 =
  Option.bind (DiffFirst K x0) fun t1 =>
  br (eqS t1 x1)
  (Option.bind (DiffSecond K x0) fun t2 =>
   some (eqS t2 x2))
  (some false) := by kernel_rfl
theorem diffOf_eq (K : Nat) (x0 : List TS0.den) : diffOf (K + 1) x0 =
  diffOf_l0 K K [] x0 (List.length x0 : Int) 0 := by kernel_rfl
theorem diffOf_l0_eq (K k : Nat) (x3 : List TS0.den) (x6 : List TS0.den) (x7 : Int) (x8 : Int) : diffOf_l0 K (k + 1) x3 x6 x7 x8 =
  br (ltI x8 x7)
  (diffOf_j0 K k x3 x6 x7 x8)
  (some x3) := by kernel_rfl
theorem diffOf_j0_eq (K k : Nat) (x3 : List TS0.den) (x6 : List TS0.den) (x7 : Int) (x8 : Int) : diffOf_j0 K (k + 1) x3 x6 x7 x8 =
  chk (leI 0 x8) (chk (ltI x8 (List.length x6 : Int)) (chk (ltI ((List.length x3 : Int) + (List.length ([(nth TS0 x6 x8)] : List TS0.den) : Int)) 1000000000000) (diffOf_l0 K k (x3 ++ ([(nth TS0 x6 x8)] : List TS0.den)) x6 x7 (IntKind.i64.wrap (x8 + 1))))) := by kernel_rfl
theorem Main_eq (K : Nat) (x0 : ByteArray) (x1 : ByteArray) (x2 : Bool) : Main (K + 1) x0 x1 x2 =
  Option.bind (plain K) fun t1 =>
  Option.bind (DiffMain K t1 x0 x1 x2) fun t2 =>
  Option.bind (back K t2) fun t3 =>
  some t3 := by kernel_rfl
theorem diffAwake_eq (K : Nat) : diffAwake (K + 1) =
  Option.bind (Main K (⟨#[97, 98]⟩ : ByteArray) (⟨#[97, 99]⟩ : ByteArray) false) fun t1 =>
  Option.bind (diffOf K t1) fun t2 =>
  br (eqI (List.length t2 : Int) 3)
  (chk (leI 0 0) (chk (ltI 0 (List.length t2 : Int)) (br ((eqI ((nth TS0 t2 0).1) 0) && (eqS ((nth TS0 t2 0).2) (⟨#[97]⟩ : ByteArray)))
   (chk (leI 0 1) (chk (ltI 1 (List.length t2 : Int)) (br ((eqI ((nth TS0 t2 1).1) (-1)) && (eqS ((nth TS0 t2 1).2) (⟨#[98]⟩ : ByteArray)))
    (chk (leI 0 2) (chk (ltI 2 (List.length t2 : Int)) (some ((eqI ((nth TS0 t2 2).1) 1) && (eqS ((nth TS0 t2 2).2) (⟨#[99]⟩ : ByteArray))))))
    (some false))))
   (some false))))
  (some false) := by kernel_rfl
theorem DiffEdits_eq (K : Nat) (x0 : List TS0.den) : DiffEdits (K + 1) x0 =
  DiffEdits_l0 K K 0 0 x0 (List.length x0 : Int) 0 := by kernel_rfl
theorem DiffEdits_l0_eq (K k : Nat) (x2 : Int) (x3 : Int) (x7 : List TS0.den) (x8 : Int) (x9 : Int) : DiffEdits_l0 K (k + 1) x2 x3 x7 x8 x9 =
  br (ltI x9 x8)
  (DiffEdits_j0 K k x2 x3 x7 x8 x9)
  (some (x2, x3)) := by kernel_rfl
theorem DiffEdits_j0_eq (K k : Nat) (x2 : Int) (x3 : Int) (x7 : List TS0.den) (x8 : Int) (x9 : Int) : DiffEdits_j0 K (k + 1) x2 x3 x7 x8 x9 =
  chk (leI 0 x9) (chk (ltI x9 (List.length x7 : Int)) (Option.bind (RuneCountInString K ((nth TS0 x7 x9).2)) fun t1 =>
  br (eqI ((nth TS0 x7 x9).1) 1)
  (DiffEdits_j1 K k (IntKind.i64.wrap (x2 + t1)) x3 0 [(nth TS0 x7 x9)] t1 x7 x8 x9)
  (DiffEdits_j1 K k x2 x3 0 [(nth TS0 x7 x9)] t1 x7 x8 x9))) := by kernel_rfl
theorem DiffEdits_j1_eq (K k : Nat) (x2 : Int) (x3 : Int) (i5 : Int) (x5 : List TS0.den) (x6 : Int) (x7 : List TS0.den) (x8 : Int) (x9 : Int) : DiffEdits_j1 K (k + 1) x2 x3 i5 x5 x6 x7 x8 x9 =
  br (eqI ((nth TS0 x5 i5).1) (-1))
  (DiffEdits_l0 K k x2 (IntKind.i64.wrap (x3 + x6)) x7 x8 (IntKind.i64.wrap (x9 + 1)))
  (DiffEdits_l0 K k x2 x3 x7 x8 (IntKind.i64.wrap (x9 + 1))) := by kernel_rfl
theorem DiffLeast_eq (K : Nat) (x0 : ByteArray) (x1 : ByteArray) : DiffLeast (K + 1) x0 x1 =
  chk (nleI (List.length (runesI x0)) 70368744177664) (chk (nleI (List.length (runesI x1)) 70368744177664) (chk (leI 0 (IntKind.i64.wrap ((List.length (runesI x1) : Int) + 1))) (chk (leI (IntKind.i64.wrap ((List.length (runesI x1) : Int) + 1)) (IntKind.i64.wrap ((List.length (runesI x1) : Int) + 1))) (chk (ltI (IntKind.i64.wrap ((List.length (runesI x1) : Int) + 1)) 1000000000000) (DiffLeast_l0 K K (runesI x0) (runesI x1) (List.replicate (Int.toNat (IntKind.i64.wrap ((List.length (runesI x1) : Int) + 1))) (0 : Int)) (List.length (runesI x0) : Int) 0))))) := by kernel_rfl
theorem DiffLeast_l0_eq (K k : Nat) (x5 : List Int) (x6 : List Int) (x7 : List Int) (x23 : Int) (x24 : Int) : DiffLeast_l0 K (k + 1) x5 x6 x7 x23 x24 =
  br (ltI x24 x23)
  (DiffLeast_j0 K k x5 x6 x7 x23 x24)
  (DiffLeast_j1 K k x5 x6 x7) := by kernel_rfl
theorem DiffLeast_j0_eq (K k : Nat) (x5 : List Int) (x6 : List Int) (x7 : List Int) (x23 : Int) (x24 : Int) : DiffLeast_j0 K (k + 1) x5 x6 x7 x23 x24 =
  chk (leI 0 x24) (chk (ltI x24 (List.length x5 : Int)) (DiffLeast_l1 K k x5 x6 x7 (nth (.int .i32) x5 x24) 0 x23 x24 (List.length x6 : Int) 0)) := by kernel_rfl
theorem DiffLeast_j1_eq (K k : Nat) (x5 : List Int) (x6 : List Int) (x7 : List Int) : DiffLeast_j1 K (k + 1) x5 x6 x7 =
  chk (leI 0 (List.length x6 : Int)) (chk (ltI (List.length x6 : Int) (List.length x7 : Int)) (some (IntKind.i64.wrap ((IntKind.i64.wrap ((List.length x5 : Int) + (List.length x6 : Int))) - (IntKind.i64.wrap (2 * (nth (.int .i64) x7 (List.length x6 : Int)))))))) := by kernel_rfl
theorem DiffLeast_l1_eq (K k : Nat) (x5 : List Int) (x6 : List Int) (x7 : List Int) (x9 : Int) (x10 : Int) (x23 : Int) (x24 : Int) (x29 : Int) (x30 : Int) : DiffLeast_l1 K (k + 1) x5 x6 x7 x9 x10 x23 x24 x29 x30 =
  br (ltI x30 x29)
  (DiffLeast_j2 K k x5 x6 x7 x9 x10 x23 x24 x29 x30)
  (DiffLeast_l0 K k x5 x6 x7 x23 (IntKind.i64.wrap (x24 + 1))) := by kernel_rfl
theorem DiffLeast_j2_eq (K k : Nat) (x5 : List Int) (x6 : List Int) (x7 : List Int) (x9 : Int) (x10 : Int) (x23 : Int) (x24 : Int) (x29 : Int) (x30 : Int) : DiffLeast_j2 K (k + 1) x5 x6 x7 x9 x10 x23 x24 x29 x30 =
  chk (leI 0 x30) (chk (ltI x30 (List.length x6 : Int)) (chk (leI 0 (IntKind.i64.wrap (x30 + 1))) (chk (ltI (IntKind.i64.wrap (x30 + 1)) (List.length x7 : Int)) (br (eqI x9 (nth (.int .i32) x6 x30))
  (chk (leI 0 (IntKind.i64.wrap (x30 + 1))) (chk (ltI (IntKind.i64.wrap (x30 + 1)) (List.length x7 : Int)) (DiffLeast_l1 K k x5 x6 (List.set x7 (Int.toNat (IntKind.i64.wrap (x30 + 1))) (IntKind.i64.wrap (x10 + 1))) x9 (nth (.int .i64) x7 (IntKind.i64.wrap (x30 + 1))) x23 x24 x29 (IntKind.i64.wrap (x30 + 1)))))
  (chk (leI 0 x30) (chk (ltI x30 (List.length x7 : Int)) (chk (leI 0 (IntKind.i64.wrap (x30 + 1))) (chk (ltI (IntKind.i64.wrap (x30 + 1)) (List.length x7 : Int)) (DiffLeast_l1 K k x5 x6 (List.set x7 (Int.toNat (IntKind.i64.wrap (x30 + 1))) (bif ltI (nth (.int .i64) x7 (IntKind.i64.wrap (x30 + 1))) (nth (.int .i64) x7 x30) then (nth (.int .i64) x7 x30) else (nth (.int .i64) x7 (IntKind.i64.wrap (x30 + 1))))) x9 (nth (.int .i64) x7 (IntKind.i64.wrap (x30 + 1))) x23 x24 x29 (IntKind.i64.wrap (x30 + 1))))))))))) := by kernel_rfl
theorem IsDiffMerged_eq (K : Nat) (x0 : List TS0.den) : IsDiffMerged (K + 1) x0 =
  IsDiffMerged_l0 K K x0 (List.length x0 : Int) 0 := by kernel_rfl
theorem IsDiffMerged_l0_eq (K k : Nat) (x0 : List TS0.den) (x7 : Int) (x8 : Int) : IsDiffMerged_l0 K (k + 1) x0 x7 x8 =
  br (ltI x8 x7)
  (IsDiffMerged_j0 K k x0 x7 x8)
  (some true) := by kernel_rfl
theorem IsDiffMerged_j0_eq (K k : Nat) (x0 : List TS0.den) (x7 : Int) (x8 : Int) : IsDiffMerged_j0 K (k + 1) x0 x7 x8 =
  chk (leI 0 x8) (chk (ltI x8 (List.length x0 : Int)) (br (eqS ((nth TS0 x0 x8).2) (⟨#[]⟩ : ByteArray))
  (some false)
  (IsDiffMerged_j1 K k x0 x8 0 [(nth TS0 x0 x8)] x7 x8))) := by kernel_rfl
theorem IsDiffMerged_j1_eq (K k : Nat) (x0 : List TS0.den) (x3 : Int) (i4 : Int) (x4 : List TS0.den) (x7 : Int) (x8 : Int) : IsDiffMerged_j1 K (k + 1) x0 x3 i4 x4 x7 x8 =
  br (eqI x3 0)
  (IsDiffMerged_l0 K k x0 x7 (IntKind.i64.wrap (x8 + 1)))
  (IsDiffMerged_j2 K k x0 x3 i4 x4 x7 x8) := by kernel_rfl
theorem IsDiffMerged_j2_eq (K k : Nat) (x0 : List TS0.den) (x3 : Int) (i4 : Int) (x4 : List TS0.den) (x7 : Int) (x8 : Int) : IsDiffMerged_j2 K (k + 1) x0 x3 i4 x4 x7 x8 =
  chk (leI 0 (IntKind.i64.wrap (x3 - 1))) (chk (ltI (IntKind.i64.wrap (x3 - 1)) (List.length x0 : Int)) (br (eqI ((nth TS0 x0 (IntKind.i64.wrap (x3 - 1))).1) ((nth TS0 x4 i4).1))
  (IsDiffMerged_j3 K k x0 i4 x4 0 [(nth TS0 x0 (IntKind.i64.wrap (x3 - 1)))] x7 x8 true)
  (br (eqI ((nth TS0 x0 (IntKind.i64.wrap (x3 - 1))).1) 1)
   (IsDiffMerged_j3 K k x0 i4 x4 0 [(nth TS0 x0 (IntKind.i64.wrap (x3 - 1)))] x7 x8 (eqI ((nth TS0 x4 i4).1) (-1)))
   (IsDiffMerged_j3 K k x0 i4 x4 0 [(nth TS0 x0 (IntKind.i64.wrap (x3 - 1)))] x7 x8 false)))) := by kernel_rfl
theorem IsDiffMerged_j3_eq (K k : Nat) (x0 : List TS0.den) (i4 : Int) (x4 : List TS0.den) (i5 : Int) (x5 : List TS0.den) (x7 : Int) (x8 : Int) (x37 : Bool) : IsDiffMerged_j3 K (k + 1) x0 i4 x4 i5 x5 x7 x8 x37 =
  br x37
  (some false)
  (IsDiffMerged_j4 K k x0 i4 x4 i5 x5 x7 x8) := by kernel_rfl
theorem IsDiffMerged_j4_eq (K k : Nat) (x0 : List TS0.den) (i4 : Int) (x4 : List TS0.den) (i5 : Int) (x5 : List TS0.den) (x7 : Int) (x8 : Int) : IsDiffMerged_j4 K (k + 1) x0 i4 x4 i5 x5 x7 x8 =
  br (eqI ((nth TS0 x5 i5).1) (-1))
  (br (eqI ((nth TS0 x4 i4).1) 1)
   (Option.bind (DiffPrefix K ((nth TS0 x5 i5).2) ((nth TS0 x4 i4).2)) fun t1 =>
    br (ltI 0 t1)
    (IsDiffMerged_j5 K k x0 x7 x8 true)
    (Option.bind (DiffSuffix K ((nth TS0 x5 i5).2) ((nth TS0 x4 i4).2)) fun t2 =>
     IsDiffMerged_j5 K k x0 x7 x8 (ltI 0 t2)))
   (IsDiffMerged_j5 K k x0 x7 x8 false))
  (IsDiffMerged_j5 K k x0 x7 x8 false) := by kernel_rfl
theorem IsDiffMerged_j5_eq (K k : Nat) (x0 : List TS0.den) (x7 : Int) (x8 : Int) (x61 : Bool) : IsDiffMerged_j5 K (k + 1) x0 x7 x8 x61 =
  br x61
  (some false)
  (IsDiffMerged_l0 K k x0 x7 (IntKind.i64.wrap (x8 + 1))) := by kernel_rfl
theorem sameDiffs_eq (K : Nat) (x0 : List TS0.den) (x1 : List TS0.den) : sameDiffs (K + 1) x0 x1 =
  br (!eqI (List.length x0 : Int) (List.length x1 : Int))
  (some false)
  (sameDiffs_j0 K K x0 x1) := by kernel_rfl
theorem sameDiffs_j0_eq (K k : Nat) (x0 : List TS0.den) (x1 : List TS0.den) : sameDiffs_j0 K (k + 1) x0 x1 =
  sameDiffs_l0 K k x0 x1 (List.length x0 : Int) 0 := by kernel_rfl
theorem sameDiffs_l0_eq (K k : Nat) (x0 : List TS0.den) (x1 : List TS0.den) (x12 : Int) (x13 : Int) : sameDiffs_l0 K (k + 1) x0 x1 x12 x13 =
  br (ltI x13 x12)
  (sameDiffs_j1 K k x0 x1 x12 x13)
  (some true) := by kernel_rfl
theorem sameDiffs_j1_eq (K k : Nat) (x0 : List TS0.den) (x1 : List TS0.den) (x12 : Int) (x13 : Int) : sameDiffs_j1 K (k + 1) x0 x1 x12 x13 =
  chk (leI 0 x13) (chk (ltI x13 (List.length x0 : Int)) (chk (leI 0 x13) (chk (ltI x13 (List.length x1 : Int)) (br (!((eqI ((nth TS0 x0 x13).1) ((nth TS0 x1 x13).1)) && (eqS ((nth TS0 x0 x13).2) ((nth TS0 x1 x13).2))))
  (some false)
  (sameDiffs_l0 K k x0 x1 x12 (IntKind.i64.wrap (x13 + 1))))))) := by kernel_rfl
theorem Bisect_eq (K : Nat) (x0 : ByteArray) (x1 : ByteArray) : Bisect (K + 1) x0 x1 =
  Option.bind (plain K) fun t1 =>
  Option.bind (DiffBisect K t1 x0 x1) fun t2 =>
  Option.bind (back K t2) fun t3 =>
  some t3 := by kernel_rfl
theorem Levenshtein_eq (K : Nat) (x0 : List TS0.den) : Levenshtein (K + 1) x0 =
  Option.bind (plain K) fun t1 =>
  Option.bind (diffs K x0) fun t2 =>
  Option.bind (DiffLevenshtein K t1 t2) fun t3 =>
  some t3 := by kernel_rfl
theorem DiffTrueDistance_eq (K : Nat) (x0 : ByteArray) (x1 : ByteArray) : DiffTrueDistance (K + 1) x0 x1 =
  chk (nleI (List.length (runesI x0)) 70368744177664) (chk (nleI (List.length (runesI x1)) 70368744177664) (chk (leI 0 (IntKind.i64.wrap ((List.length (runesI x1) : Int) + 1))) (chk (leI (IntKind.i64.wrap ((List.length (runesI x1) : Int) + 1)) (IntKind.i64.wrap ((List.length (runesI x1) : Int) + 1))) (chk (ltI (IntKind.i64.wrap ((List.length (runesI x1) : Int) + 1)) 1000000000000) (DiffTrueDistance_l0 K K (runesI x0) (runesI x1) (List.replicate (Int.toNat (IntKind.i64.wrap ((List.length (runesI x1) : Int) + 1))) (0 : Int)) (List.length (List.replicate (Int.toNat (IntKind.i64.wrap ((List.length (runesI x1) : Int) + 1))) (0 : Int)) : Int) 0))))) := by kernel_rfl
theorem DiffTrueDistance_l0_eq (K k : Nat) (x5 : List Int) (x6 : List Int) (x7 : List Int) (x25 : Int) (x26 : Int) : DiffTrueDistance_l0 K (k + 1) x5 x6 x7 x25 x26 =
  br (ltI x26 x25)
  (DiffTrueDistance_j0 K k x5 x6 x7 x25 x26)
  (DiffTrueDistance_j1 K k x5 x6 x7) := by kernel_rfl
theorem DiffTrueDistance_j0_eq (K k : Nat) (x5 : List Int) (x6 : List Int) (x7 : List Int) (x25 : Int) (x26 : Int) : DiffTrueDistance_j0 K (k + 1) x5 x6 x7 x25 x26 =
  chk (leI 0 x26) (chk (ltI x26 (List.length x7 : Int)) (DiffTrueDistance_l0 K k x5 x6 (List.set x7 (Int.toNat x26) x26) x25 (IntKind.i64.wrap (x26 + 1)))) := by kernel_rfl
theorem DiffTrueDistance_j1_eq (K k : Nat) (x5 : List Int) (x6 : List Int) (x7 : List Int) : DiffTrueDistance_j1 K (k + 1) x5 x6 x7 =
  DiffTrueDistance_l1 K k x6 x7 x5 (List.length x5 : Int) 0 := by kernel_rfl
theorem DiffTrueDistance_l1_eq (K k : Nat) (x6 : List Int) (x7 : List Int) (x34 : List Int) (x35 : Int) (x36 : Int) : DiffTrueDistance_l1 K (k + 1) x6 x7 x34 x35 x36 =
  br (ltI x36 x35)
  (DiffTrueDistance_j2 K k x6 x7 x34 x35 x36)
  (DiffTrueDistance_j3 K k x6 x7) := by kernel_rfl
theorem DiffTrueDistance_j2_eq (K k : Nat) (x6 : List Int) (x7 : List Int) (x34 : List Int) (x35 : Int) (x36 : Int) : DiffTrueDistance_j2 K (k + 1) x6 x7 x34 x35 x36 =
  chk (leI 0 x36) (chk (ltI x36 (List.length x34 : Int)) (chk (leI 0 0) (chk (ltI 0 (List.length x7 : Int)) (chk (leI 0 0) (chk (ltI 0 (List.length x7 : Int)) (DiffTrueDistance_l2 K k x6 (List.set x7 (Int.toNat 0) (IntKind.i64.wrap (x36 + 1))) (nth (.int .i32) x34 x36) (nth (.int .i64) x7 0) x34 x35 x36 (List.length x6 : Int) 0)))))) := by kernel_rfl
theorem DiffTrueDistance_j3_eq (K k : Nat) (x6 : List Int) (x7 : List Int) : DiffTrueDistance_j3 K (k + 1) x6 x7 =
  chk (leI 0 (List.length x6 : Int)) (chk (ltI (List.length x6 : Int) (List.length x7 : Int)) (some (nth (.int .i64) x7 (List.length x6 : Int)))) := by kernel_rfl
theorem DiffTrueDistance_l2_eq (K k : Nat) (x6 : List Int) (x7 : List Int) (x10 : Int) (x11 : Int) (x34 : List Int) (x35 : Int) (x36 : Int) (x49 : Int) (x50 : Int) : DiffTrueDistance_l2 K (k + 1) x6 x7 x10 x11 x34 x35 x36 x49 x50 =
  br (ltI x50 x49)
  (DiffTrueDistance_j4 K k x6 x7 x10 x11 x34 x35 x36 x49 x50)
  (DiffTrueDistance_l1 K k x6 x7 x34 x35 (IntKind.i64.wrap (x36 + 1))) := by kernel_rfl
theorem DiffTrueDistance_j4_eq (K k : Nat) (x6 : List Int) (x7 : List Int) (x10 : Int) (x11 : Int) (x34 : List Int) (x35 : Int) (x36 : Int) (x49 : Int) (x50 : Int) : DiffTrueDistance_j4 K (k + 1) x6 x7 x10 x11 x34 x35 x36 x49 x50 =
  chk (leI 0 x50) (chk (ltI x50 (List.length x6 : Int)) (chk (leI 0 (IntKind.i64.wrap (x50 + 1))) (chk (ltI (IntKind.i64.wrap (x50 + 1)) (List.length x7 : Int)) (br (!eqI x10 (nth (.int .i32) x6 x50))
  (chk (leI 0 x50) (chk (ltI x50 (List.length x7 : Int)) (DiffTrueDistance_j5 K k x6 x7 x10 x50 (nth (.int .i64) x7 (IntKind.i64.wrap (x50 + 1))) (IntKind.i64.wrap (1 + (bif ltI (nth (.int .i64) x7 x50) (bif ltI (nth (.int .i64) x7 (IntKind.i64.wrap (x50 + 1))) x11 then (nth (.int .i64) x7 (IntKind.i64.wrap (x50 + 1))) else x11) then (nth (.int .i64) x7 x50) else (bif ltI (nth (.int .i64) x7 (IntKind.i64.wrap (x50 + 1))) x11 then (nth (.int .i64) x7 (IntKind.i64.wrap (x50 + 1))) else x11)))) x34 x35 x36 x49 x50)))
  (DiffTrueDistance_j5 K k x6 x7 x10 x50 (nth (.int .i64) x7 (IntKind.i64.wrap (x50 + 1))) x11 x34 x35 x36 x49 x50))))) := by kernel_rfl
theorem DiffTrueDistance_j5_eq (K k : Nat) (x6 : List Int) (x7 : List Int) (x10 : Int) (x12 : Int) (x14 : Int) (x15 : Int) (x34 : List Int) (x35 : Int) (x36 : Int) (x49 : Int) (x50 : Int) : DiffTrueDistance_j5 K (k + 1) x6 x7 x10 x12 x14 x15 x34 x35 x36 x49 x50 =
  chk (leI 0 (IntKind.i64.wrap (x12 + 1))) (chk (ltI (IntKind.i64.wrap (x12 + 1)) (List.length x7 : Int)) (DiffTrueDistance_l2 K k x6 (List.set x7 (Int.toNat (IntKind.i64.wrap (x12 + 1))) x15) x10 x14 x34 x35 x36 x49 (IntKind.i64.wrap (x50 + 1)))) := by kernel_rfl
theorem XIndex_eq (K : Nat) (x0 : List TS0.den) (x1 : Int) : XIndex (K + 1) x0 x1 =
  Option.bind (plain K) fun t1 =>
  Option.bind (diffs K x0) fun t2 =>
  Option.bind (DiffXIndex K t1 t2 x1) fun t3 =>
  some t3 := by kernel_rfl
theorem DiffFirst_eq (K : Nat) (x0 : List TS0.den) : DiffFirst (K + 1) x0 =
  DiffFirst_l0 K K (⟨#[]⟩ : ByteArray) x0 (List.length x0 : Int) 0 := by kernel_rfl
theorem DiffFirst_l0_eq (K k : Nat) (x3 : ByteArray) (x6 : List TS0.den) (x7 : Int) (x8 : Int) : DiffFirst_l0 K (k + 1) x3 x6 x7 x8 =
  br (ltI x8 x7)
  (DiffFirst_j0 K k x3 x6 x7 x8)
  (some x3) := by kernel_rfl
theorem DiffFirst_j0_eq (K k : Nat) (x3 : ByteArray) (x6 : List TS0.den) (x7 : Int) (x8 : Int) : DiffFirst_j0 K (k + 1) x3 x6 x7 x8 =
  chk (leI 0 x8) (chk (ltI x8 (List.length x6 : Int)) (br (!eqI ((nth TS0 x6 x8).1) 1)
  (chk (nleI (ByteArray.size x3 + ByteArray.size ((nth TS0 x6 x8).2)) 9223372036854775807) (DiffFirst_l0 K k (ByteArray.append x3 ((nth TS0 x6 x8).2)) x6 x7 (IntKind.i64.wrap (x8 + 1))))
  (DiffFirst_l0 K k x3 x6 x7 (IntKind.i64.wrap (x8 + 1))))) := by kernel_rfl
theorem DiffSecond_eq (K : Nat) (x0 : List TS0.den) : DiffSecond (K + 1) x0 =
  DiffSecond_l0 K K (⟨#[]⟩ : ByteArray) x0 (List.length x0 : Int) 0 := by kernel_rfl
theorem DiffSecond_l0_eq (K k : Nat) (x3 : ByteArray) (x6 : List TS0.den) (x7 : Int) (x8 : Int) : DiffSecond_l0 K (k + 1) x3 x6 x7 x8 =
  br (ltI x8 x7)
  (DiffSecond_j0 K k x3 x6 x7 x8)
  (some x3) := by kernel_rfl
theorem DiffSecond_j0_eq (K k : Nat) (x3 : ByteArray) (x6 : List TS0.den) (x7 : Int) (x8 : Int) : DiffSecond_j0 K (k + 1) x3 x6 x7 x8 =
  chk (leI 0 x8) (chk (ltI x8 (List.length x6 : Int)) (br (!eqI ((nth TS0 x6 x8).1) (-1))
  (chk (nleI (ByteArray.size x3 + ByteArray.size ((nth TS0 x6 x8).2)) 9223372036854775807) (DiffSecond_l0 K k (ByteArray.append x3 ((nth TS0 x6 x8).2)) x6 x7 (IntKind.i64.wrap (x8 + 1))))
  (DiffSecond_l0 K k x3 x6 x7 (IntKind.i64.wrap (x8 + 1))))) := by kernel_rfl
theorem back_eq (K : Nat) (x0 : List TS2.den) : back (K + 1) x0 =
  back_l0 K K [] x0 (List.length x0 : Int) 0 := by kernel_rfl
theorem back_l0_eq (K k : Nat) (x3 : List TS0.den) (x6 : List TS2.den) (x7 : Int) (x8 : Int) : back_l0 K (k + 1) x3 x6 x7 x8 =
  br (ltI x8 x7)
  (back_j0 K k x3 x6 x7 x8)
  (some x3) := by kernel_rfl
theorem back_j0_eq (K k : Nat) (x3 : List TS0.den) (x6 : List TS2.den) (x7 : Int) (x8 : Int) : back_j0 K (k + 1) x3 x6 x7 x8 =
  chk (leI 0 x8) (chk (ltI x8 (List.length x6 : Int)) (chk (ltI ((List.length x3 : Int) + (List.length ([((IntKind.i64.wrap ((nth TS2 x6 x8).1)), (nth TS2 x6 x8).2)] : List TS0.den) : Int)) 1000000000000) (back_l0 K k (x3 ++ ([((IntKind.i64.wrap ((nth TS2 x6 x8).1)), (nth TS2 x6 x8).2)] : List TS0.den)) x6 x7 (IntKind.i64.wrap (x8 + 1))))) := by kernel_rfl
theorem plain_eq (K : Nat) : plain (K + 1) =
  Option.bind (New K) fun t1 =>
  some (0, (t1.2.1, (t1.2.2.1, (t1.2.2.2.1, (t1.2.2.2.2.1, (t1.2.2.2.2.2.1, t1.2.2.2.2.2.2)))))) := by kernel_rfl
theorem DiffMain_eq (K : Nat) (x0 : TS1.den) (x1 : ByteArray) (x2 : ByteArray) (x3 : Bool) : DiffMain (K + 1) x0 x1 x2 x3 =
  chk (nleI (List.length (runesI x1)) 70368744177664) (chk (nleI (List.length (runesI x2)) 70368744177664) (Option.bind (DiffMainRunes K x0 (runesI x1) (runesI x2) x3) fun t1 =>
  some t1)) := by kernel_rfl
theorem DiffPrefix_eq (K : Nat) (x0 : ByteArray) (x1 : ByteArray) : DiffPrefix (K + 1) x0 x1 =
  chk (nleI (List.length (runesI x0)) 70368744177664) (chk (nleI (List.length (runesI x1)) 70368744177664) (DiffPrefix_l0 K K (runesI x0) (runesI x1) 0)) := by kernel_rfl
theorem DiffPrefix_l0_eq (K k : Nat) (x5 : List Int) (x6 : List Int) (x7 : Int) : DiffPrefix_l0 K (k + 1) x5 x6 x7 =
  br (ltI x7 (List.length x5 : Int))
  (br (ltI x7 (List.length x6 : Int))
   (chk (leI 0 x7) (chk (ltI x7 (List.length x5 : Int)) (chk (leI 0 x7) (chk (ltI x7 (List.length x6 : Int)) (br (eqI (nth (.int .i32) x5 x7) (nth (.int .i32) x6 x7))
    (DiffPrefix_j0 K k x5 x6 x7)
    (some x7))))))
   (some x7))
  (some x7) := by kernel_rfl
theorem DiffPrefix_j0_eq (K k : Nat) (x5 : List Int) (x6 : List Int) (x7 : Int) : DiffPrefix_j0 K (k + 1) x5 x6 x7 =
  DiffPrefix_l0 K k x5 x6 (IntKind.i64.wrap (x7 + 1)) := by kernel_rfl
theorem DiffSuffix_eq (K : Nat) (x0 : ByteArray) (x1 : ByteArray) : DiffSuffix (K + 1) x0 x1 =
  chk (nleI (List.length (runesI x0)) 70368744177664) (chk (nleI (List.length (runesI x1)) 70368744177664) (DiffSuffix_l0 K K (runesI x0) (runesI x1) 0)) := by kernel_rfl
theorem DiffSuffix_l0_eq (K k : Nat) (x5 : List Int) (x6 : List Int) (x7 : Int) : DiffSuffix_l0 K (k + 1) x5 x6 x7 =
  br (ltI x7 (List.length x5 : Int))
  (br (ltI x7 (List.length x6 : Int))
   (chk (leI 0 (IntKind.i64.wrap ((IntKind.i64.wrap ((List.length x5 : Int) - 1)) - x7))) (chk (ltI (IntKind.i64.wrap ((IntKind.i64.wrap ((List.length x5 : Int) - 1)) - x7)) (List.length x5 : Int)) (chk (leI 0 (IntKind.i64.wrap ((IntKind.i64.wrap ((List.length x6 : Int) - 1)) - x7))) (chk (ltI (IntKind.i64.wrap ((IntKind.i64.wrap ((List.length x6 : Int) - 1)) - x7)) (List.length x6 : Int)) (br (eqI (nth (.int .i32) x5 (IntKind.i64.wrap ((IntKind.i64.wrap ((List.length x5 : Int) - 1)) - x7))) (nth (.int .i32) x6 (IntKind.i64.wrap ((IntKind.i64.wrap ((List.length x6 : Int) - 1)) - x7))))
    (DiffSuffix_j0 K k x5 x6 x7)
    (some x7))))))
   (some x7))
  (some x7) := by kernel_rfl
theorem DiffSuffix_j0_eq (K k : Nat) (x5 : List Int) (x6 : List Int) (x7 : Int) : DiffSuffix_j0 K (k + 1) x5 x6 x7 =
  DiffSuffix_l0 K k x5 x6 (IntKind.i64.wrap (x7 + 1)) := by kernel_rfl
theorem DiffMainRunes_eq (K : Nat) (x0 : TS1.den) (x1 : List Int) (x2 : List Int) (x3 : Bool) : DiffMainRunes (K + 1) x0 x1 x2 x3 =
  Option.bind (diffMainRunes K x0 x1 x2 x3) fun t1 =>
  some t1 := by kernel_rfl
theorem DiffBisect_eq (K : Nat) (x0 : TS1.den) (x1 : ByteArray) (x2 : ByteArray) : DiffBisect (K + 1) x0 x1 x2 =
  chk (nleI (List.length (runesI x1)) 70368744177664) (chk (nleI (List.length (runesI x2)) 70368744177664) (Option.bind (diffBisect K x0 (runesI x1) (runesI x2)) fun t1 =>
  some t1)) := by kernel_rfl
theorem DiffCharsToLines_eq (K : Nat) (x0 : TS1.den) (x1 : List TS2.den) (x2 : List ByteArray) : DiffCharsToLines (K + 1) x0 x1 x2 =
  chk (leI 0 0) (chk (leI 0 (List.length x1 : Int)) (chk (ltI (List.length x1 : Int) 1000000000000) (DiffCharsToLines_l0 K K x2 (List.replicate (Int.toNat 0) ((0, (⟨#[]⟩ : ByteArray)) : TS2.den)) x1 (List.length x1 : Int) 0))) := by kernel_rfl
theorem DiffCharsToLines_l0_eq (K k : Nat) (x2 : List ByteArray) (x7 : List TS2.den) (x17 : List TS2.den) (x18 : Int) (x19 : Int) : DiffCharsToLines_l0 K (k + 1) x2 x7 x17 x18 x19 =
  br (ltI x19 x18)
  (DiffCharsToLines_j0 K k x2 x7 x17 x18 x19)
  (some x7) := by kernel_rfl
theorem DiffCharsToLines_j0_eq (K k : Nat) (x2 : List ByteArray) (x7 : List TS2.den) (x17 : List TS2.den) (x18 : Int) (x19 : Int) : DiffCharsToLines_j0 K (k + 1) x2 x7 x17 x18 x19 =
  chk (leI 0 x19) (chk (ltI x19 (List.length x17 : Int)) (chk (nleI (List.length (runesI ((nth TS2 x17 x19).2))) 70368744177664) (chk (leI 0 (List.length (runesI ((nth TS2 x17 x19).2)) : Int)) (chk (leI (List.length (runesI ((nth TS2 x17 x19).2)) : Int) (List.length (runesI ((nth TS2 x17 x19).2)) : Int)) (chk (ltI (List.length (runesI ((nth TS2 x17 x19).2)) : Int) 1000000000000) (DiffCharsToLines_l1 K k x2 x7 0 [(nth TS2 x17 x19)] (List.replicate (Int.toNat (List.length (runesI ((nth TS2 x17 x19).2)) : Int)) ((⟨#[]⟩ : ByteArray) : ByteArray)) x17 x18 x19 (runesI ((nth TS2 x17 x19).2)) (List.length (runesI ((nth TS2 x17 x19).2)) : Int) 0)))))) := by kernel_rfl
theorem DiffCharsToLines_l1_eq (K k : Nat) (x2 : List ByteArray) (x7 : List TS2.den) (i9 : Int) (x9 : List TS2.den) (x11 : List ByteArray) (x17 : List TS2.den) (x18 : Int) (x19 : Int) (x29 : List Int) (x30 : Int) (x31 : Int) : DiffCharsToLines_l1 K (k + 1) x2 x7 i9 x9 x11 x17 x18 x19 x29 x30 x31 =
  br (ltI x31 x30)
  (DiffCharsToLines_j1 K k x2 x7 i9 x9 x11 x17 x18 x19 x29 x30 x31)
  (DiffCharsToLines_j2 K k x2 x7 i9 x9 x11 x17 x18 x19) := by kernel_rfl
theorem DiffCharsToLines_j1_eq (K k : Nat) (x2 : List ByteArray) (x7 : List TS2.den) (i9 : Int) (x9 : List TS2.den) (x11 : List ByteArray) (x17 : List TS2.den) (x18 : Int) (x19 : Int) (x29 : List Int) (x30 : Int) (x31 : Int) : DiffCharsToLines_j1 K (k + 1) x2 x7 i9 x9 x11 x17 x18 x19 x29 x30 x31 =
  chk (leI 0 x31) (chk (ltI x31 (List.length x29 : Int)) (none)) := by kernel_rfl
theorem DiffCharsToLines_j2_eq (K k : Nat) (x2 : List ByteArray) (x7 : List TS2.den) (i9 : Int) (x9 : List TS2.den) (x11 : List ByteArray) (x17 : List TS2.den) (x18 : Int) (x19 : Int) : DiffCharsToLines_j2 K (k + 1) x2 x7 i9 x9 x11 x17 x18 x19 =
  Option.bind (zzJoin K x11) fun t1 =>
  chk (ltI ((List.length x7 : Int) + (List.length ([(nth TS2 (List.set x9 (Int.toNat i9) ((nth TS2 x9 i9).1, t1)) i9)] : List TS2.den) : Int)) 1000000000000) (DiffCharsToLines_l0 K k x2 (x7 ++ ([(nth TS2 (List.set x9 (Int.toNat i9) ((nth TS2 x9 i9).1, t1)) i9)] : List TS2.den)) x17 x18 (IntKind.i64.wrap (x19 + 1))) := by kernel_rfl
theorem diffs_eq (K : Nat) (x0 : List TS0.den) : diffs (K + 1) x0 =
  diffs_l0 K K [] x0 (List.length x0 : Int) 0 := by kernel_rfl
theorem diffs_l0_eq (K k : Nat) (x3 : List TS2.den) (x6 : List TS0.den) (x7 : Int) (x8 : Int) : diffs_l0 K (k + 1) x3 x6 x7 x8 =
  br (ltI x8 x7)
  (diffs_j0 K k x3 x6 x7 x8)
  (some x3) := by kernel_rfl
theorem diffs_j0_eq (K k : Nat) (x3 : List TS2.den) (x6 : List TS0.den) (x7 : Int) (x8 : Int) : diffs_j0 K (k + 1) x3 x6 x7 x8 =
  chk (leI 0 x8) (chk (ltI x8 (List.length x6 : Int)) (chk (ltI ((List.length x3 : Int) + (List.length ([((IntKind.i8.wrap ((nth TS0 x6 x8).1)), (nth TS0 x6 x8).2)] : List TS2.den) : Int)) 1000000000000) (diffs_l0 K k (x3 ++ ([((IntKind.i8.wrap ((nth TS0 x6 x8).1)), (nth TS0 x6 x8).2)] : List TS2.den)) x6 x7 (IntKind.i64.wrap (x8 + 1))))) := by kernel_rfl
theorem DiffLevenshtein_eq (K : Nat) (x0 : TS1.den) (x1 : List TS2.den) : DiffLevenshtein (K + 1) x0 x1 =
  DiffLevenshtein_l0 K K 0 0 0 x1 (List.length x1 : Int) 0 := by kernel_rfl
theorem DiffLevenshtein_l0_eq (K k : Nat) (x5 : Int) (x6 : Int) (x7 : Int) (x10 : List TS2.den) (x11 : Int) (x12 : Int) : DiffLevenshtein_l0 K (k + 1) x5 x6 x7 x10 x11 x12 =
  br (ltI x12 x11)
  (DiffLevenshtein_j0 K k x5 x6 x7 x10 x11 x12)
  (DiffLevenshtein_j1 K k x5 x6 x7) := by kernel_rfl
theorem DiffLevenshtein_j0_eq (K k : Nat) (x5 : Int) (x6 : Int) (x7 : Int) (x10 : List TS2.den) (x11 : Int) (x12 : Int) : DiffLevenshtein_j0 K (k + 1) x5 x6 x7 x10 x11 x12 =
  chk (leI 0 x12) (chk (ltI x12 (List.length x10 : Int)) (br (eqI ((nth TS2 x10 x12).1) 1)
  (Option.bind (RuneCountInString K ((nth TS2 x10 x12).2)) fun t1 =>
   DiffLevenshtein_l0 K k x5 (IntKind.i64.wrap (x6 + t1)) x7 x10 x11 (IntKind.i64.wrap (x12 + 1)))
  (br (eqI ((nth TS2 x10 x12).1) (-1))
   (Option.bind (RuneCountInString K ((nth TS2 x10 x12).2)) fun t2 =>
    DiffLevenshtein_l0 K k x5 x6 (IntKind.i64.wrap (x7 + t2)) x10 x11 (IntKind.i64.wrap (x12 + 1)))
   (br (eqI ((nth TS2 x10 x12).1) 0)
    (Option.bind (diffmatchpatch_max K x6 x7) fun t3 =>
     DiffLevenshtein_l0 K k (IntKind.i64.wrap (x5 + t3)) 0 0 x10 x11 (IntKind.i64.wrap (x12 + 1)))
    (DiffLevenshtein_l0 K k x5 x6 x7 x10 x11 (IntKind.i64.wrap (x12 + 1))))))) := by kernel_rfl
theorem DiffLevenshtein_j1_eq (K k : Nat) (x5 : Int) (x6 : Int) (x7 : Int) : DiffLevenshtein_j1 K (k + 1) x5 x6 x7 =
  Option.bind (diffmatchpatch_max K x6 x7) fun t4 =>
  some (IntKind.i64.wrap (x5 + t4)) := by kernel_rfl
theorem DiffXIndex_eq (K : Nat) (x0 : TS1.den) (x1 : List TS2.den) (x2 : Int) : DiffXIndex (K + 1) x0 x1 x2 =
  DiffXIndex_l0 K K x1 x2 0 0 0 0 0 [(0, (⟨#[]⟩ : ByteArray))] 0 := by kernel_rfl
theorem DiffXIndex_l0_eq (K k : Nat) (x1 : List TS2.den) (x2 : Int) (x7 : Int) (x8 : Int) (x9 : Int) (x10 : Int) (i11 : Int) (x11 : List TS2.den) (x12 : Int) : DiffXIndex_l0 K (k + 1) x1 x2 x7 x8 x9 x10 i11 x11 x12 =
  br (ltI x12 (List.length x1 : Int))
  (DiffXIndex_j0 K k x1 x2 x7 x8 x9 x10 i11 x11 x12)
  (DiffXIndex_j1 K k x2 x9 x10 i11 x11) := by kernel_rfl
theorem DiffXIndex_j0_eq (K k : Nat) (x1 : List TS2.den) (x2 : Int) (x7 : Int) (x8 : Int) (x9 : Int) (x10 : Int) (i11 : Int) (x11 : List TS2.den) (x12 : Int) : DiffXIndex_j0 K (k + 1) x1 x2 x7 x8 x9 x10 i11 x11 x12 =
  chk (leI 0 x12) (chk (ltI x12 (List.length x1 : Int)) (br (!eqI ((nth TS2 x1 x12).1) 1)
  (DiffXIndex_j2 K k x1 x2 (IntKind.i64.wrap (x7 + (ByteArray.size ((nth TS2 x1 x12).2) : Int))) x8 x9 x10 i11 x11 x12 0 [(nth TS2 x1 x12)])
  (DiffXIndex_j2 K k x1 x2 x7 x8 x9 x10 i11 x11 x12 0 [(nth TS2 x1 x12)]))) := by kernel_rfl
theorem DiffXIndex_j1_eq (K k : Nat) (x2 : Int) (x9 : Int) (x10 : Int) (i11 : Int) (x11 : List TS2.den) : DiffXIndex_j1 K (k + 1) x2 x9 x10 i11 x11 =
  br (eqI ((nth TS2 x11 i11).1) (-1))
  (some x10)
  (DiffXIndex_j3 K k x2 x9 x10) := by kernel_rfl
theorem DiffXIndex_j2_eq (K k : Nat) (x1 : List TS2.den) (x2 : Int) (x7 : Int) (x8 : Int) (x9 : Int) (x10 : Int) (i11 : Int) (x11 : List TS2.den) (x12 : Int) (i13 : Int) (x13 : List TS2.den) : DiffXIndex_j2 K (k + 1) x1 x2 x7 x8 x9 x10 i11 x11 x12 i13 x13 =
  br (!eqI ((nth TS2 x13 i13).1) (-1))
  (DiffXIndex_j4 K k x1 x2 x7 (IntKind.i64.wrap (x8 + (ByteArray.size ((nth TS2 x13 i13).2) : Int))) x9 x10 i11 x11 x12 i13 x13)
  (DiffXIndex_j4 K k x1 x2 x7 x8 x9 x10 i11 x11 x12 i13 x13) := by kernel_rfl
theorem DiffXIndex_j3_eq (K k : Nat) (x2 : Int) (x9 : Int) (x10 : Int) : DiffXIndex_j3 K (k + 1) x2 x9 x10 =
  some (IntKind.i64.wrap (x10 + (IntKind.i64.wrap (x2 - x9)))) := by kernel_rfl
theorem DiffXIndex_j4_eq (K k : Nat) (x1 : List TS2.den) (x2 : Int) (x7 : Int) (x8 : Int) (x9 : Int) (x10 : Int) (i11 : Int) (x11 : List TS2.den) (x12 : Int) (i13 : Int) (x13 : List TS2.den) : DiffXIndex_j4 K (k + 1) x1 x2 x7 x8 x9 x10 i11 x11 x12 i13 x13 =
  br (ltI x2 x7)
  (DiffXIndex_j1 K k x2 x9 x10 i11 (List.set x11 (Int.toNat i11) (nth TS2 x13 i13)))
  (DiffXIndex_l0 K k x1 x2 x7 x8 x7 x8 i11 x11 (IntKind.i64.wrap (x12 + 1))) := by kernel_rfl
theorem New_eq (K : Nat) : New (K + 1) =
  some (1000000000, (4, (1000, (4602678819172646912, (4, (32, 4602678819172646912)))))) := by kernel_rfl
theorem diffMainRunes_eq (K : Nat) (x0 : TS1.den) (x1 : List Int) (x2 : List Int) (x3 : Bool) : diffMainRunes (K + 1) x0 x1 x2 x3 =
  Option.bind (runesEqual K x1 x2) fun t1 =>
  br t1
  (br (ltI 0 (List.length x1 : Int))
   (chk (ltI (List.length ([(0, (strOfRunes x1))] : List TS2.den) : Int) 1000000000000) (some ([(0, (strOfRunes x1))] : List TS2.den)))
   (some []))
  (diffMainRunes_j0 K K 0 [x0] x1 x2 x3) := by kernel_rfl
theorem diffMainRunes_j0_eq (K k : Nat) (i0 : Int) (x0 : List TS1.den) (x1 : List Int) (x2 : List Int) (x3 : Bool) : diffMainRunes_j0 K (k + 1) i0 x0 x1 x2 x3 =
  Option.bind (commonPrefixLength K x1 x2) fun t2 =>
  chk (leI 0 0) (chk (leI 0 t2) (chk (leI t2 (List.length x1 : Int)) (chk (leI 0 t2) (chk (leI t2 (List.length x1 : Int)) (chk (leI (List.length x1 : Int) (List.length x1 : Int)) (chk (leI 0 t2) (chk (leI t2 (List.length x2 : Int)) (chk (leI (List.length x2 : Int) (List.length x2 : Int)) (Option.bind (commonSuffixLength K (List.take (Int.toNat (List.length x1 : Int) - Int.toNat t2) (List.drop (Int.toNat t2) x1)) (List.take (Int.toNat (List.length x2 : Int) - Int.toNat t2) (List.drop (Int.toNat t2) x2))) fun t3 =>
  chk (leI 0 (IntKind.i64.wrap (((List.length x1 : Int) - t2) - t3))) (chk (leI (IntKind.i64.wrap (((List.length x1 : Int) - t2) - t3)) ((List.length x1 : Int) - t2)) (chk (leI ((List.length x1 : Int) - t2) ((List.length x1 : Int) - t2)) (chk (leI 0 0) (chk (leI 0 (IntKind.i64.wrap (((List.length x1 : Int) - t2) - t3))) (chk (leI (IntKind.i64.wrap (((List.length x1 : Int) - t2) - t3)) ((List.length x1 : Int) - t2)) (chk (leI 0 0) (chk (leI 0 (IntKind.i64.wrap (((List.length x2 : Int) - t2) - t3))) (chk (leI (IntKind.i64.wrap (((List.length x2 : Int) - t2) - t3)) ((List.length x2 : Int) - t2)) (Option.bind (diffCompute K (nth TS1 x0 i0) (List.take (Int.toNat (t2 + (IntKind.i64.wrap (((List.length x1 : Int) - t2) - t3))) - Int.toNat (t2 + 0)) (List.drop (Int.toNat (t2 + 0)) x1)) (List.take (Int.toNat (t2 + (IntKind.i64.wrap (((List.length x2 : Int) - t2) - t3))) - Int.toNat (t2 + 0)) (List.drop (Int.toNat (t2 + 0)) x2)) x3) fun t4 =>
  br (!eqI (t2 - 0) 0)
  (chk (ltI ((List.length ([(0, (strOfRunes (List.take (Int.toNat t2 - Int.toNat 0) (List.drop (Int.toNat 0) x1))))] : List TS2.den) : Int) + (List.length t4 : Int)) 1000000000000) (diffMainRunes_j1 K k i0 x0 (List.take (Int.toNat (t2 + ((List.length x1 : Int) - t2)) - Int.toNat (t2 + (IntKind.i64.wrap (((List.length x1 : Int) - t2) - t3)))) (List.drop (Int.toNat (t2 + (IntKind.i64.wrap (((List.length x1 : Int) - t2) - t3)))) x1)) (([(0, (strOfRunes (List.take (Int.toNat t2 - Int.toNat 0) (List.drop (Int.toNat 0) x1))))] : List TS2.den) ++ t4)))
  (diffMainRunes_j1 K k i0 x0 (List.take (Int.toNat (t2 + ((List.length x1 : Int) - t2)) - Int.toNat (t2 + (IntKind.i64.wrap (((List.length x1 : Int) - t2) - t3)))) (List.drop (Int.toNat (t2 + (IntKind.i64.wrap (((List.length x1 : Int) - t2) - t3)))) x1)) t4))))))))))))))))))) := by kernel_rfl
theorem diffMainRunes_j1_eq (K k : Nat) (i0 : Int) (x0 : List TS1.den) (x12 : List Int) (x13 : List TS2.den) : diffMainRunes_j1 K (k + 1) i0 x0 x12 x13 =
  br (!eqI (List.length x12 : Int) 0)
  (chk (ltI ((List.length x13 : Int) + (List.length ([(0, (strOfRunes x12))] : List TS2.den) : Int)) 1000000000000) (diffMainRunes_j2 K k i0 x0 (x13 ++ ([(0, (strOfRunes x12))] : List TS2.den))))
  (diffMainRunes_j2 K k i0 x0 x13) := by kernel_rfl
theorem diffMainRunes_j2_eq (K k : Nat) (i0 : Int) (x0 : List TS1.den) (x13 : List TS2.den) : diffMainRunes_j2 K (k + 1) i0 x0 x13 =
  Option.bind (DiffCleanupMerge K (nth TS1 x0 i0) x13) fun t5 =>
  some t5 := by kernel_rfl
theorem diffBisect_eq (K : Nat) (x0 : TS1.den) (x1 : List Int) (x2 : List Int) : diffBisect (K + 1) x0 x1 x2 =
  chk (!eqI 2 0) (chk (leI 0 (IntKind.i64.wrap (2 * (IntKind.i64.wrap (Int.tdiv (IntKind.i64.wrap ((IntKind.i64.wrap ((List.length x1 : Int) + (List.length x2 : Int))) + 1)) 2))))) (chk (leI (IntKind.i64.wrap (2 * (IntKind.i64.wrap (Int.tdiv (IntKind.i64.wrap ((IntKind.i64.wrap ((List.length x1 : Int) + (List.length x2 : Int))) + 1)) 2)))) (IntKind.i64.wrap (2 * (IntKind.i64.wrap (Int.tdiv (IntKind.i64.wrap ((IntKind.i64.wrap ((List.length x1 : Int) + (List.length x2 : Int))) + 1)) 2))))) (chk (ltI (IntKind.i64.wrap (2 * (IntKind.i64.wrap (Int.tdiv (IntKind.i64.wrap ((IntKind.i64.wrap ((List.length x1 : Int) + (List.length x2 : Int))) + 1)) 2)))) 1000000000000) (chk (leI 0 (IntKind.i64.wrap (2 * (IntKind.i64.wrap (Int.tdiv (IntKind.i64.wrap ((IntKind.i64.wrap ((List.length x1 : Int) + (List.length x2 : Int))) + 1)) 2))))) (chk (leI (IntKind.i64.wrap (2 * (IntKind.i64.wrap (Int.tdiv (IntKind.i64.wrap ((IntKind.i64.wrap ((List.length x1 : Int) + (List.length x2 : Int))) + 1)) 2)))) (IntKind.i64.wrap (2 * (IntKind.i64.wrap (Int.tdiv (IntKind.i64.wrap ((IntKind.i64.wrap ((List.length x1 : Int) + (List.length x2 : Int))) + 1)) 2))))) (chk (ltI (IntKind.i64.wrap (2 * (IntKind.i64.wrap (Int.tdiv (IntKind.i64.wrap ((IntKind.i64.wrap ((List.length x1 : Int) + (List.length x2 : Int))) + 1)) 2)))) 1000000000000) (diffBisect_l0 K K 0 [x0] x1 x2 (List.length x1 : Int) (List.length x2 : Int) (IntKind.i64.wrap (Int.tdiv (IntKind.i64.wrap ((IntKind.i64.wrap ((List.length x1 : Int) + (List.length x2 : Int))) + 1)) 2)) (IntKind.i64.wrap (Int.tdiv (IntKind.i64.wrap ((IntKind.i64.wrap ((List.length x1 : Int) + (List.length x2 : Int))) + 1)) 2)) (IntKind.i64.wrap (2 * (IntKind.i64.wrap (Int.tdiv (IntKind.i64.wrap ((IntKind.i64.wrap ((List.length x1 : Int) + (List.length x2 : Int))) + 1)) 2)))) (List.replicate (Int.toNat (IntKind.i64.wrap (2 * (IntKind.i64.wrap (Int.tdiv (IntKind.i64.wrap ((IntKind.i64.wrap ((List.length x1 : Int) + (List.length x2 : Int))) + 1)) 2))))) (0 : Int)) (List.replicate (Int.toNat (IntKind.i64.wrap (2 * (IntKind.i64.wrap (Int.tdiv (IntKind.i64.wrap ((IntKind.i64.wrap ((List.length x1 : Int) + (List.length x2 : Int))) + 1)) 2))))) (0 : Int)) (List.length (List.replicate (Int.toNat (IntKind.i64.wrap (2 * (IntKind.i64.wrap (Int.tdiv (IntKind.i64.wrap ((IntKind.i64.wrap ((List.length x1 : Int) + (List.length x2 : Int))) + 1)) 2))))) (0 : Int)) : Int) 0))))))) := by kernel_rfl
end Go.Proofs.YtmlfecgppnffgaaDoor.E
