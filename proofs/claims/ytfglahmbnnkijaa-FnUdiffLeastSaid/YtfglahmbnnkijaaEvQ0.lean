import Derived.Test.YtfglahmbnnkijaaEvT
/- Written by a program of this session (wip/ev4dev): what the functions' places evaluate to. Not trusted: Lean checks it. -/
set_option linter.unusedVariables false
namespace Go.Proofs.Ytfglahmbnnkijaa.E
open Go.Ev
theorem FnUdiffLeast_eq (K : Nat) (x0 : ByteArray) (x1 : ByteArray) : FnUdiffLeast (K + 1) x0 x1 =
  br (ltI (2147483647 : Int) ((ByteArray.size x0) : Int))
  (FnUdiffLeast_j0 K K x0 x1 Bool.true)
  (FnUdiffLeast_j0 K K x0 x1 (ltI (2147483647 : Int) ((ByteArray.size x1) : Int))) := by kernel_rfl
theorem FnUdiffLeast_j0_eq (K k : Nat) (x0 : ByteArray) (x1 : ByteArray) (x13 : Bool) : FnUdiffLeast_j0 K (k + 1) x0 x1 x13 =
  br x13
  (some Bool.true)
  (FnUdiffLeast_j1 K k x0 x1) := by kernel_rfl
theorem FnUdiffLeast_j1_eq (K k : Nat) (x0 : ByteArray) (x1 : ByteArray) : FnUdiffLeast_j1 K (k + 1) x0 x1 =
  Option.bind (CleanChars K x0 (40 : Int)) fun r0 =>
  br (Bool.not r0)
  (FnUdiffLeast_j2 K k x0 x1 Bool.true)
  (Option.bind (CleanChars K x1 (40 : Int)) fun r1 =>
   FnUdiffLeast_j2 K k x0 x1 (Bool.not r1)) := by kernel_rfl
theorem FnUdiffLeast_j2_eq (K k : Nat) (x0 : ByteArray) (x1 : ByteArray) (x21 : Bool) : FnUdiffLeast_j2 K (k + 1) x0 x1 x21 =
  br x21
  (Option.bind (editAwake K) fun r0 =>
   some r0)
  (FnUdiffLeast_j3 K k x0 x1) := by kernel_rfl
theorem FnUdiffLeast_j3_eq (K k : Nat) (x0 : ByteArray) (x1 : ByteArray) : FnUdiffLeast_j3 K (k + 1) x0 x1 =
  Option.bind (EditStrings K x0 x1) fun r0 =>
  Option.bind (editOf K Hp.empty r0) fun r1 =>
  Option.bind (editAwake K) fun r2 =>
  br r2
  (Option.bind (EditsLead K (r1).1 (r1).2 x0 x1) fun r3 =>
   br (r3).2
   (Option.bind (EditSize K (r3).1 x0 (r1).2) fun r4 =>
    Option.bind (EditChars K x0) fun r5 =>
    Option.bind (EditChars K x1) fun r6 =>
    Option.bind (EditLeast K r5 r6) fun r7 =>
    some (eqI (r4).2 r7))
   (some Bool.false))
  (some Bool.false) := by kernel_rfl
theorem CleanChars_eq (K : Nat) (x0 : ByteArray) (x1 : Int) : CleanChars (K + 1) x0 x1 =
  br (leI ((ByteArray.size x0) : Int) x1)
  (chk (nleI (List.length (runesI x0)) 70368744177664) (some (eqS (strOfRunes (runesI x0)) x0)))
  (some Bool.false) := by kernel_rfl
theorem editOf_eq (K : Nat) (x0 : Hp) (x1 : List TS1.den) : editOf (K + 1) x0 x1 =
  editOf_l0 K K Rf.nil x1 ((List.length x1) : Int) (0 : Int) x0 := by kernel_rfl
theorem editOf_l0_eq (K k : Nat) (x3 : Rf) (x6 : List (TS1.den)) (x7 : Int) (x8 : Int) (h : Hp) : editOf_l0 K (k + 1) x3 x6 x7 x8 h =
  br (ltI x8 x7)
  (editOf_j0 K k x3 x6 x7 x8 h)
  (some (h, x3)) := by kernel_rfl
theorem editOf_j0_eq (K k : Nat) (x3 : Rf) (x6 : List (TS1.den)) (x7 : Int) (x8 : Int) (h : Hp) : editOf_j0 K (k + 1) x3 x6 x7 x8 h =
  chk (leI (0 : Int) x8) (chk (ltI x8 ((List.length x6) : Int)) (Option.bind ((Hp.cs (Hp.new h (41 : TypeId) (.p TS1) ((nth TS1 x6 x8) :: [])) 3 (Rf.at (h).1 0 1))) fun r0 =>
  chk (ltI (((rlen x3) : Int) + ((r0).2 : Int)) (1000000000000 : Int)) (Option.bind ((Hp.app (Hp.new h (41 : TypeId) (.p TS1) ((nth TS1 x6 x8) :: [])) (41 : TypeId) 3 (r0).1 (r0).2 x3)) fun r1 =>
  editOf_l0 K k (r1).1 x6 x7 (IntKind.wrap IntKind.i64 (x8 + (1 : Int))) (r1).2))) := by kernel_rfl
theorem EditStrings_eq (K : Nat) (x0 : ByteArray) (x1 : ByteArray) : EditStrings (K + 1) x0 x1 =
  Option.bind (Strings K Hp.empty x0 x1) fun r0 =>
  Option.bind (backEdits K (r0).1 (r0).2) fun r1 =>
  some (r1).2 := by kernel_rfl
theorem EditsLead_eq (K : Nat) (x0 : Hp) (x1 : Rf) (x2 : ByteArray) (x3 : ByteArray) : EditsLead (K + 1) x0 x1 x2 x3 =
  Option.bind (EditsIn K x0 x1 ((ByteArray.size x2) : Int)) fun r0 =>
  br (Bool.not (r0).2)
  (EditsLead_j0 K K x1 x2 x3 Bool.true (r0).1)
  (Option.bind (EditsApart K (r0).1 x1) fun r1 =>
   EditsLead_j0 K K x1 x2 x3 (Bool.not (r1).2) (r1).1) := by kernel_rfl
theorem EditsLead_j0_eq (K k : Nat) (x0 : Rf) (x1 : ByteArray) (x2 : ByteArray) (x17 : Bool) (h : Hp) : EditsLead_j0 K (k + 1) x0 x1 x2 x17 h =
  br x17
  (some (h, Bool.false))
  (EditsLead_j1 K k x0 x1 x2 h) := by kernel_rfl
theorem EditsLead_j1_eq (K k : Nat) (x0 : Rf) (x1 : ByteArray) (x2 : ByteArray) (h : Hp) : EditsLead_j1 K (k + 1) x0 x1 x2 h =
  EditsLead_l0 K k x0 x1 x2 (1 : Int) h := by kernel_rfl
theorem EditsLead_l0_eq (K k : Nat) (x0 : Rf) (x1 : ByteArray) (x2 : ByteArray) (x7 : Int) (h : Hp) : EditsLead_l0 K (k + 1) x0 x1 x2 x7 h =
  br (ltI x7 ((rlen x0) : Int))
  (EditsLead_j2 K k x0 x1 x2 x7 h)
  (EditsLead_j3 K k x0 x1 x2 h) := by kernel_rfl
theorem EditsLead_j2_eq (K k : Nat) (x0 : Rf) (x1 : ByteArray) (x2 : ByteArray) (x7 : Int) (h : Hp) : EditsLead_j2 K (k + 1) x0 x1 x2 x7 h =
  chk (leI (0 : Int) x7) (chk (ltI x7 ((rlen x0) : Int)) (Option.bind ((Hp.ld h (.p TS1) (radr 3 (Int.toNat x7) x0))) fun r0 =>
  chk (leI (0 : Int) (IntKind.wrap IntKind.i64 (x7 - (1 : Int)))) (chk (ltI (IntKind.wrap IntKind.i64 (x7 - (1 : Int))) ((rlen x0) : Int)) (Option.bind ((Hp.ld h (.p TS1) (radr 3 (Int.toNat (IntKind.wrap IntKind.i64 (x7 - (1 : Int)))) x0))) fun r1 =>
  Option.bind (EditBefore K r0 r1) fun r2 =>
  br r2
  (some (h, Bool.false))
  (EditsLead_l0 K k x0 x1 x2 (IntKind.wrap IntKind.i64 (x7 + (1 : Int))) h))))) := by kernel_rfl
theorem EditsLead_j3_eq (K k : Nat) (x0 : Rf) (x1 : ByteArray) (x2 : ByteArray) (h : Hp) : EditsLead_j3 K (k + 1) x0 x1 x2 h =
  Option.bind (EditsApplied K h x1 x0) fun r0 =>
  some ((r0).1, (eqS (r0).2 x2)) := by kernel_rfl
theorem EditSize_eq (K : Nat) (x0 : Hp) (x1 : ByteArray) (x2 : Rf) : EditSize (K + 1) x0 x1 x2 =
  EditSize_l0 K K x1 (0 : Int) x2 ((rlen x2) : Int) (0 : Int) x0 := by kernel_rfl
theorem EditSize_l0_eq (K k : Nat) (x0 : ByteArray) (x5 : Int) (x8 : Rf) (x9 : Int) (x10 : Int) (h : Hp) : EditSize_l0 K (k + 1) x0 x5 x8 x9 x10 h =
  br (ltI x10 x9)
  (EditSize_j0 K k x0 x5 x8 x9 x10 h)
  (some (h, x5)) := by kernel_rfl
theorem EditSize_j0_eq (K k : Nat) (x0 : ByteArray) (x5 : Int) (x8 : Rf) (x9 : Int) (x10 : Int) (h : Hp) : EditSize_j0 K (k + 1) x0 x5 x8 x9 x10 h =
  chk (leI (0 : Int) x10) (chk (ltI x10 ((rlen x8) : Int)) (Option.bind ((Hp.ld h (.p TS1) (radr 3 (Int.toNat x10) x8))) fun r0 =>
  chk (leI (0 : Int) (r0).1) (chk (leI (r0).1 ((r0).2).1) (chk (leI ((r0).2).1 ((ByteArray.size x0) : Int)) (Option.bind (EditChars K (ByteArray.extract x0 (Int.toNat (r0).1) (Int.toNat ((r0).2).1))) fun r1 =>
  Option.bind (EditChars K ((r0).2).2) fun r2 =>
  EditSize_l0 K k x0 (IntKind.wrap IntKind.i64 (x5 + (IntKind.wrap IntKind.i64 (((List.length r1) : Int) + ((List.length r2) : Int))))) x8 x9 (IntKind.wrap IntKind.i64 (x10 + (1 : Int))) h))))) := by kernel_rfl
theorem EditLeast_eq (K : Nat) (x0 : List ByteArray) (x1 : List ByteArray) : EditLeast (K + 1) x0 x1 =
  chk (leI (0 : Int) (IntKind.wrap IntKind.i64 (((List.length x1) : Int) + (1 : Int)))) (chk (leI (IntKind.wrap IntKind.i64 (((List.length x1) : Int) + (1 : Int))) (IntKind.wrap IntKind.i64 (((List.length x1) : Int) + (1 : Int)))) (chk (ltI (IntKind.wrap IntKind.i64 (((List.length x1) : Int) + (1 : Int))) (1000000000000 : Int)) (EditLeast_l0 K K x0 x1 (Rf.at 0 0 (Int.toNat (IntKind.wrap IntKind.i64 (((List.length x1) : Int) + (1 : Int))))) ((rlen (Rf.at 0 0 (Int.toNat (IntKind.wrap IntKind.i64 (((List.length x1) : Int) + (1 : Int)))))) : Int) (0 : Int) (Hp.new Hp.empty (3 : TypeId) (.p (.int (.i64))) (List.replicate (Int.toNat (IntKind.wrap IntKind.i64 (((List.length x1) : Int) + (1 : Int)))) (0 : Int)))))) := by kernel_rfl
theorem EditLeast_l0_eq (K k : Nat) (x0 : List (ByteArray)) (x1 : List (ByteArray)) (x5 : Rf) (x15 : Int) (x16 : Int) (h : Hp) : EditLeast_l0 K (k + 1) x0 x1 x5 x15 x16 h =
  br (ltI x16 x15)
  (EditLeast_j0 K k x0 x1 x5 x15 x16 h)
  (EditLeast_j1 K k x0 x1 x5 h) := by kernel_rfl
theorem EditLeast_j0_eq (K k : Nat) (x0 : List (ByteArray)) (x1 : List (ByteArray)) (x5 : Rf) (x15 : Int) (x16 : Int) (h : Hp) : EditLeast_j0 K (k + 1) x0 x1 x5 x15 x16 h =
  chk (leI (0 : Int) x16) (chk (ltI x16 ((rlen x5) : Int)) (Option.bind ((Hp.st h (.p (.int (.i64))) (radr 1 (Int.toNat x16) x5) x16)) fun r0 =>
  EditLeast_l0 K k x0 x1 x5 x15 (IntKind.wrap IntKind.i64 (x16 + (1 : Int))) r0)) := by kernel_rfl
theorem EditLeast_j1_eq (K k : Nat) (x0 : List (ByteArray)) (x1 : List (ByteArray)) (x5 : Rf) (h : Hp) : EditLeast_j1 K (k + 1) x0 x1 x5 h =
  EditLeast_l1 K k x0 x1 x5 (1 : Int) h := by kernel_rfl
theorem EditLeast_l1_eq (K k : Nat) (x0 : List (ByteArray)) (x1 : List (ByteArray)) (x5 : Rf) (x7 : Int) (h : Hp) : EditLeast_l1 K (k + 1) x0 x1 x5 x7 h =
  br (leI x7 ((List.length x0) : Int))
  (EditLeast_j2 K k x0 x1 x5 x7 h)
  (EditLeast_j3 K k x1 x5 h) := by kernel_rfl
theorem EditLeast_j2_eq (K k : Nat) (x0 : List (ByteArray)) (x1 : List (ByteArray)) (x5 : Rf) (x7 : Int) (h : Hp) : EditLeast_j2 K (k + 1) x0 x1 x5 x7 h =
  chk (leI (0 : Int) (IntKind.wrap IntKind.i64 (((List.length x1) : Int) + (1 : Int)))) (chk (leI (IntKind.wrap IntKind.i64 (((List.length x1) : Int) + (1 : Int))) (IntKind.wrap IntKind.i64 (((List.length x1) : Int) + (1 : Int)))) (chk (ltI (IntKind.wrap IntKind.i64 (((List.length x1) : Int) + (1 : Int))) (1000000000000 : Int)) (chk (leI (0 : Int) (0 : Int)) (chk (ltI (0 : Int) ((rlen (Rf.at (h).1 0 (Int.toNat (IntKind.wrap IntKind.i64 (((List.length x1) : Int) + (1 : Int)))))) : Int)) (Option.bind ((Hp.st (Hp.new h (3 : TypeId) (.p (.int (.i64))) (List.replicate (Int.toNat (IntKind.wrap IntKind.i64 (((List.length x1) : Int) + (1 : Int)))) (0 : Int))) (.p (.int (.i64))) (radr 1 (Int.toNat (0 : Int)) (Rf.at (h).1 0 (Int.toNat (IntKind.wrap IntKind.i64 (((List.length x1) : Int) + (1 : Int)))))) x7)) fun r0 =>
  EditLeast_l2 K k x0 x1 x5 x7 (Rf.at (h).1 0 (Int.toNat (IntKind.wrap IntKind.i64 (((List.length x1) : Int) + (1 : Int))))) (1 : Int) r0))))) := by kernel_rfl
theorem EditLeast_j3_eq (K k : Nat) (x1 : List (ByteArray)) (x5 : Rf) (h : Hp) : EditLeast_j3 K (k + 1) x1 x5 h =
  chk (leI (0 : Int) ((List.length x1) : Int)) (chk (ltI ((List.length x1) : Int) ((rlen x5) : Int)) (Option.bind ((Hp.ld h (.p (.int (.i64))) (radr 1 (Int.toNat ((List.length x1) : Int)) x5))) fun r0 =>
  some r0)) := by kernel_rfl
theorem EditLeast_l2_eq (K k : Nat) (x0 : List (ByteArray)) (x1 : List (ByteArray)) (x5 : Rf) (x7 : Int) (x8 : Rf) (x9 : Int) (h : Hp) : EditLeast_l2 K (k + 1) x0 x1 x5 x7 x8 x9 h =
  br (leI x9 ((List.length x1) : Int))
  (EditLeast_j4 K k x0 x1 x5 x7 x8 x9 h)
  (EditLeast_l1 K k x0 x1 x8 (IntKind.wrap IntKind.i64 (x7 + (1 : Int))) h) := by kernel_rfl
theorem EditLeast_j4_eq (K k : Nat) (x0 : List (ByteArray)) (x1 : List (ByteArray)) (x5 : Rf) (x7 : Int) (x8 : Rf) (x9 : Int) (h : Hp) : EditLeast_j4 K (k + 1) x0 x1 x5 x7 x8 x9 h =
  chk (leI (0 : Int) x9) (chk (ltI x9 ((rlen x5) : Int)) (Option.bind ((Hp.ld h (.p (.int (.i64))) (radr 1 (Int.toNat x9) x5))) fun r0 =>
  chk (leI (0 : Int) (IntKind.wrap IntKind.i64 (x9 - (1 : Int)))) (chk (ltI (IntKind.wrap IntKind.i64 (x9 - (1 : Int))) ((rlen x8) : Int)) (Option.bind ((Hp.ld h (.p (.int (.i64))) (radr 1 (Int.toNat (IntKind.wrap IntKind.i64 (x9 - (1 : Int)))) x8))) fun r1 =>
  chk (leI (0 : Int) x9) (chk (ltI x9 ((rlen x8) : Int)) (Option.bind ((Hp.st h (.p (.int (.i64))) (radr 1 (Int.toNat x9) x8) (IntKind.wrap IntKind.i64 ((cond (ltI r1 r0) r1 r0) + (1 : Int))))) fun r2 =>
  chk (leI (0 : Int) (IntKind.wrap IntKind.i64 (x7 - (1 : Int)))) (chk (ltI (IntKind.wrap IntKind.i64 (x7 - (1 : Int))) ((List.length x0) : Int)) (chk (leI (0 : Int) (IntKind.wrap IntKind.i64 (x9 - (1 : Int)))) (chk (ltI (IntKind.wrap IntKind.i64 (x9 - (1 : Int))) ((List.length x1) : Int)) (br (eqS (nth (.str) x0 (IntKind.wrap IntKind.i64 (x7 - (1 : Int)))) (nth (.str) x1 (IntKind.wrap IntKind.i64 (x9 - (1 : Int)))))
  (chk (leI (0 : Int) (IntKind.wrap IntKind.i64 (x9 - (1 : Int)))) (chk (ltI (IntKind.wrap IntKind.i64 (x9 - (1 : Int))) ((rlen x5) : Int)) (Option.bind ((Hp.ld r2 (.p (.int (.i64))) (radr 1 (Int.toNat (IntKind.wrap IntKind.i64 (x9 - (1 : Int)))) x5))) fun r3 =>
   chk (leI (0 : Int) x9) (chk (ltI x9 ((rlen x8) : Int)) (Option.bind ((Hp.st r2 (.p (.int (.i64))) (radr 1 (Int.toNat x9) x8) r3)) fun r4 =>
   EditLeast_l2 K k x0 x1 x5 x7 x8 (IntKind.wrap IntKind.i64 (x9 + (1 : Int))) r4)))))
  (EditLeast_l2 K k x0 x1 x5 x7 x8 (IntKind.wrap IntKind.i64 (x9 + (1 : Int))) r2))))))))))) := by kernel_rfl
theorem EditChars_eq (K : Nat) (x0 : ByteArray) : EditChars (K + 1) x0 =
  EditChars_l0 K K [] (Pf.at 0 0) (Hp.push Hp.empty (Obj.iter x0 0)) := by kernel_rfl
theorem EditChars_l0_eq (K k : Nat) (x3 : List (ByteArray)) (x7 : Pf) (h : Hp) : EditChars_l0 K (k + 1) x3 x7 h =
  Option.bind ((Hp.more h x7)) fun r0 =>
  br r0
  (Option.bind ((Hp.nxt h x7)) fun r1 =>
   EditChars_j0 K k x3 x7 Bool.true (r1).1 ((r1).2).1 ((r1).2).2)
  (some x3) := by kernel_rfl
theorem EditChars_j0_eq (K k : Nat) (x3 : List (ByteArray)) (x7 : Pf) (x8_0 : Bool) (x8_1 : Int) (x8_2 : Int) (h : Hp) : EditChars_j0 K (k + 1) x3 x7 x8_0 x8_1 x8_2 h =
  chk (ltI (((List.length x3) : Int) + ((List.length ((strOfRunes (x8_2 :: [])) :: [])) : Int)) (1000000000000 : Int)) (EditChars_l0 K k (x3 ++ ((strOfRunes (x8_2 :: [])) :: [])) x7 h) := by kernel_rfl
theorem EditsIn_eq (K : Nat) (x0 : Hp) (x1 : Rf) (x2 : Int) : EditsIn (K + 1) x0 x1 x2 =
  EditsIn_l0 K K x2 x1 ((rlen x1) : Int) (0 : Int) x0 := by kernel_rfl
theorem EditsIn_l0_eq (K k : Nat) (x1 : Int) (x7 : Rf) (x8 : Int) (x9 : Int) (h : Hp) : EditsIn_l0 K (k + 1) x1 x7 x8 x9 h =
  br (ltI x9 x8)
  (EditsIn_j0 K k x1 x7 x8 x9 h)
  (some (h, Bool.true)) := by kernel_rfl
theorem EditsIn_j0_eq (K k : Nat) (x1 : Int) (x7 : Rf) (x8 : Int) (x9 : Int) (h : Hp) : EditsIn_j0 K (k + 1) x1 x7 x8 x9 h =
  chk (leI (0 : Int) x9) (chk (ltI x9 ((rlen x7) : Int)) (Option.bind ((Hp.ld h (.p TS1) (radr 3 (Int.toNat x9) x7))) fun r0 =>
  br (ltI (r0).1 (0 : Int))
  (EditsIn_j1 K k x1 x7 x8 x9 Bool.true h)
  (br (ltI ((r0).2).1 (r0).1)
   (EditsIn_j1 K k x1 x7 x8 x9 Bool.true h)
   (EditsIn_j1 K k x1 x7 x8 x9 (ltI x1 ((r0).2).1) h)))) := by kernel_rfl
theorem EditsIn_j1_eq (K k : Nat) (x1 : Int) (x7 : Rf) (x8 : Int) (x9 : Int) (x28 : Bool) (h : Hp) : EditsIn_j1 K (k + 1) x1 x7 x8 x9 x28 h =
  br x28
  (some (h, Bool.false))
  (EditsIn_l0 K k x1 x7 x8 (IntKind.wrap IntKind.i64 (x9 + (1 : Int))) h) := by kernel_rfl
theorem EditsApart_eq (K : Nat) (x0 : Hp) (x1 : Rf) : EditsApart (K + 1) x0 x1 =
  EditsApart_l0 K K x1 (1 : Int) x0 := by kernel_rfl
theorem EditsApart_l0_eq (K k : Nat) (x0 : Rf) (x3 : Int) (h : Hp) : EditsApart_l0 K (k + 1) x0 x3 h =
  br (ltI x3 ((rlen x0) : Int))
  (EditsApart_j0 K k x0 x3 h)
  (some (h, Bool.true)) := by kernel_rfl
theorem EditsApart_j0_eq (K k : Nat) (x0 : Rf) (x3 : Int) (h : Hp) : EditsApart_j0 K (k + 1) x0 x3 h =
  chk (leI (0 : Int) x3) (chk (ltI x3 ((rlen x0) : Int)) (chk (Bool.not (pnil (radr 3 (Int.toNat x3) x0))) (Option.bind ((Hp.ld h (.p (.int (.i64))) (padd 0 (radr 3 (Int.toNat x3) x0)))) fun r0 =>
  chk (leI (0 : Int) (IntKind.wrap IntKind.i64 (x3 - (1 : Int)))) (chk (ltI (IntKind.wrap IntKind.i64 (x3 - (1 : Int))) ((rlen x0) : Int)) (chk (Bool.not (pnil (radr 3 (Int.toNat (IntKind.wrap IntKind.i64 (x3 - (1 : Int)))) x0))) (Option.bind ((Hp.ld h (.p (.int (.i64))) (padd 1 (radr 3 (Int.toNat (IntKind.wrap IntKind.i64 (x3 - (1 : Int)))) x0)))) fun r1 =>
  br (ltI r0 r1)
  (some (h, Bool.false))
  (EditsApart_l0 K k x0 (IntKind.wrap IntKind.i64 (x3 + (1 : Int))) h))))))) := by kernel_rfl
theorem EditsApplied_eq (K : Nat) (x0 : Hp) (x1 : ByteArray) (x2 : Rf) : EditsApplied (K + 1) x0 x1 x2 =
  EditsApplied_l0 K K x1 (ByteArray.mk (List.toArray [])) (0 : Int) x2 ((rlen x2) : Int) (0 : Int) x0 := by kernel_rfl
theorem EditsApplied_l0_eq (K k : Nat) (x0 : ByteArray) (x5 : ByteArray) (x6 : Int) (x9 : Rf) (x10 : Int) (x11 : Int) (h : Hp) : EditsApplied_l0 K (k + 1) x0 x5 x6 x9 x10 x11 h =
  br (ltI x11 x10)
  (EditsApplied_j0 K k x0 x5 x6 x9 x10 x11 h)
  (EditsApplied_j1 K k x0 x5 x6 h) := by kernel_rfl
theorem EditsApplied_j0_eq (K k : Nat) (x0 : ByteArray) (x5 : ByteArray) (x6 : Int) (x9 : Rf) (x10 : Int) (x11 : Int) (h : Hp) : EditsApplied_j0 K (k + 1) x0 x5 x6 x9 x10 x11 h =
  chk (leI (0 : Int) x11) (chk (ltI x11 ((rlen x9) : Int)) (Option.bind ((Hp.ld h (.p TS1) (radr 3 (Int.toNat x11) x9))) fun r0 =>
  chk (leI (0 : Int) x6) (chk (leI x6 (r0).1) (chk (leI (r0).1 ((ByteArray.size x0) : Int)) (chk (nleI ((ByteArray.size (ByteArray.extract x0 (Int.toNat x6) (Int.toNat (r0).1))) + (ByteArray.size ((r0).2).2)) 9223372036854775807) (chk (nleI ((ByteArray.size x5) + (ByteArray.size (ByteArray.append (ByteArray.extract x0 (Int.toNat x6) (Int.toNat (r0).1)) ((r0).2).2))) 9223372036854775807) (EditsApplied_l0 K k x0 (ByteArray.append x5 (ByteArray.append (ByteArray.extract x0 (Int.toNat x6) (Int.toNat (r0).1)) ((r0).2).2)) ((r0).2).1 x9 x10 (IntKind.wrap IntKind.i64 (x11 + (1 : Int))) h))))))) := by kernel_rfl
theorem EditsApplied_j1_eq (K k : Nat) (x0 : ByteArray) (x5 : ByteArray) (x6 : Int) (h : Hp) : EditsApplied_j1 K (k + 1) x0 x5 x6 h =
  chk (leI (0 : Int) x6) (chk (leI x6 ((ByteArray.size x0) : Int)) (chk (leI ((ByteArray.size x0) : Int) ((ByteArray.size x0) : Int)) (chk (nleI ((ByteArray.size x5) + (ByteArray.size (ByteArray.extract x0 (Int.toNat x6) (Int.toNat ((ByteArray.size x0) : Int))))) 9223372036854775807) (some (h, (ByteArray.append x5 (ByteArray.extract x0 (Int.toNat x6) (Int.toNat ((ByteArray.size x0) : Int))))))))) := by kernel_rfl
theorem backEdits_eq (K : Nat) (x0 : Hp) (x1 : Rf) : backEdits (K + 1) x0 x1 =
  backEdits_l0 K K [] x1 ((rlen x1) : Int) (0 : Int) x0 := by kernel_rfl
theorem backEdits_l0_eq (K k : Nat) (x3 : List (TS1.den)) (x6 : Rf) (x7 : Int) (x8 : Int) (h : Hp) : backEdits_l0 K (k + 1) x3 x6 x7 x8 h =
  br (ltI x8 x7)
  (backEdits_j0 K k x3 x6 x7 x8 h)
  (some (h, x3)) := by kernel_rfl
theorem backEdits_j0_eq (K k : Nat) (x3 : List (TS1.den)) (x6 : Rf) (x7 : Int) (x8 : Int) (h : Hp) : backEdits_j0 K (k + 1) x3 x6 x7 x8 h =
  chk (leI (0 : Int) x8) (chk (ltI x8 ((rlen x6) : Int)) (Option.bind ((Hp.ld h (.p TS1) (radr 3 (Int.toNat x8) x6))) fun r0 =>
  chk (ltI (((List.length x3) : Int) + ((List.length (((r0).1, (((r0).2).1, ((r0).2).2)) :: [])) : Int)) (1000000000000 : Int)) (backEdits_l0 K k (x3 ++ (((r0).1, (((r0).2).1, ((r0).2).2)) :: [])) x6 x7 (IntKind.wrap IntKind.i64 (x8 + (1 : Int))) h))) := by kernel_rfl
theorem Strings_eq (K : Nat) (x0 : Hp) (x1 : ByteArray) (x2 : ByteArray) : Strings (K + 1) x0 x1 x2 =
  br (eqS x1 x2)
  (some (x0, Rf.nil))
  (Strings_j0 K K x1 x2 x0) := by kernel_rfl
theorem Strings_j0_eq (K k : Nat) (x0 : ByteArray) (x1 : ByteArray) (h : Hp) : Strings_j0 K (k + 1) x0 x1 h =
  Option.bind (isASCII_string_ K x0) fun r0 =>
  br r0
  (Option.bind (isASCII_string_ K x1) fun r1 =>
   Strings_j1 K k x0 x1 r1 h)
  (Strings_j1 K k x0 x1 Bool.false h) := by kernel_rfl
theorem Strings_j1_eq (K k : Nat) (x0 : ByteArray) (x1 : ByteArray) (x13 : Bool) (h : Hp) : Strings_j1 K (k + 1) x0 x1 x13 h =
  br x13
  (Option.bind (diffASCII K (Hp.push (Hp.push h (Obj.ro (roBytes x0))) (Obj.ro (roBytes x1))) (Rf.at (h).1 0 (ByteArray.size x0)) (Rf.at (Nat.succ (h).1) 0 (ByteArray.size x1))) fun r0 =>
   some ((r0).1, (r0).2))
  (Strings_j2 K k x0 x1 h) := by kernel_rfl
theorem Strings_j2_eq (K k : Nat) (x0 : ByteArray) (x1 : ByteArray) (h : Hp) : Strings_j2 K (k + 1) x0 x1 h =
  chk (nleI (List.length (runesI x0)) 70368744177664) (chk (nleI (List.length (runesI x1)) 70368744177664) (Option.bind (diffRunes K (Hp.new (Hp.new h (21 : TypeId) (.p (.int (.i32))) (runesI x0)) (21 : TypeId) (.p (.int (.i32))) (runesI x1)) (Rf.at (h).1 0 (List.length (runesI x0))) (Rf.at (Nat.succ (h).1) 0 (List.length (runesI x1)))) fun r0 =>
  some ((r0).1, (r0).2))) := by kernel_rfl
theorem EditBefore_eq (K : Nat) (x0 : TS1.den) (x1 : TS1.den) : EditBefore (K + 1) x0 x1 =
  br (ltI (x0).1 (x1).1)
  (some Bool.true)
  (br (eqI (x0).1 (x1).1)
   (some (ltI ((x0).2).1 ((x1).2).1))
   (some Bool.false)) := by kernel_rfl
theorem isASCII_string__eq (K : Nat) (x0 : ByteArray) : isASCII_string_ (K + 1) x0 =
  isASCII_string__l0 K K x0 (0 : Int) := by kernel_rfl
theorem isASCII_string__l0_eq (K k : Nat) (x0 : ByteArray) (x3 : Int) : isASCII_string__l0 K (k + 1) x0 x3 =
  br (ltI x3 ((ByteArray.size x0) : Int))
  (isASCII_string__j0 K k x0 x3)
  (some Bool.true) := by kernel_rfl
theorem isASCII_string__j0_eq (K k : Nat) (x0 : ByteArray) (x3 : Int) : isASCII_string__j0 K (k + 1) x0 x3 =
  chk (leI (0 : Int) x3) (chk (ltI x3 ((ByteArray.size x0) : Int)) (br (leI (128 : Int) (bt x0 x3))
  (some Bool.false)
  (isASCII_string__l0 K k x0 (IntKind.wrap IntKind.i64 (x3 + (1 : Int)))))) := by kernel_rfl
theorem diffASCII_eq (K : Nat) (x0 : Hp) (x1 : Rf) (x2 : Rf) : diffASCII (K + 1) x0 x1 x2 =
  Option.bind (DiffBytes K x0 x1 x2) fun r0 =>
  chk (leI (0 : Int) ((List.length (r0).2) : Int)) (chk (leI ((List.length (r0).2) : Int) ((List.length (r0).2) : Int)) (chk (ltI ((List.length (r0).2) : Int) (1000000000000 : Int)) (diffASCII_l0 K K x2 (Rf.at ((r0).1).1 0 (Int.toNat ((List.length (r0).2) : Int))) (r0).2 ((List.length (r0).2) : Int) (0 : Int) (Hp.new (r0).1 (74 : TypeId) (.p TS1) (List.replicate (Int.toNat ((List.length (r0).2) : Int)) ((0 : Int), ((0 : Int), (ByteArray.mk (List.toArray []))))))))) := by kernel_rfl
theorem diffASCII_l0_eq (K k : Nat) (x1 : Rf) (x6 : Rf) (x15 : List (TS0.den)) (x16 : Int) (x17 : Int) (h : Hp) : diffASCII_l0 K (k + 1) x1 x6 x15 x16 x17 h =
  br (ltI x17 x16)
  (diffASCII_j0 K k x1 x6 x15 x16 x17 h)
  (some (h, x6)) := by kernel_rfl
theorem diffASCII_j0_eq (K k : Nat) (x1 : Rf) (x6 : Rf) (x15 : List (TS0.den)) (x16 : Int) (x17 : Int) (h : Hp) : diffASCII_j0 K (k + 1) x1 x6 x15 x16 x17 h =
  chk (leI (0 : Int) x17) (chk (ltI x17 ((List.length x15) : Int)) (chk (leI (0 : Int) ((((nth TS0 x15 x17)).2).2).1) (chk (leI ((((nth TS0 x15 x17)).2).2).1 ((((nth TS0 x15 x17)).2).2).2) (chk (leI ((((nth TS0 x15 x17)).2).2).2 ((rlen x1) : Int)) (Option.bind ((Hp.rd h (.int (.u8)) (rcut 1 (Int.toNat ((((nth TS0 x15 x17)).2).2).1) (Int.toNat ((((nth TS0 x15 x17)).2).2).2) x1))) fun r0 =>
  chk (leI (0 : Int) x17) (chk (ltI x17 ((rlen x6) : Int)) (Option.bind ((Hp.st h (.p TS1) (radr 3 (Int.toNat x17) x6) (((nth TS0 x15 x17)).1, ((((nth TS0 x15 x17)).2).1, (strOfBytes r0))))) fun r1 =>
  diffASCII_l0 K k x1 x6 x15 x16 (IntKind.wrap IntKind.i64 (x17 + (1 : Int))) r1))))))) := by kernel_rfl
theorem diffRunes_eq (K : Nat) (x0 : Hp) (x1 : Rf) (x2 : Rf) : diffRunes (K + 1) x0 x1 x2 =
  Option.bind (DiffRunes K x0 x1 x2) fun r0 =>
  chk (leI (0 : Int) ((List.length (r0).2) : Int)) (chk (leI ((List.length (r0).2) : Int) ((List.length (r0).2) : Int)) (chk (ltI ((List.length (r0).2) : Int) (1000000000000 : Int)) (diffRunes_l0 K K x1 x2 (Rf.at ((r0).1).1 0 (Int.toNat ((List.length (r0).2) : Int))) (0 : Int) (0 : Int) (r0).2 ((List.length (r0).2) : Int) (0 : Int) (Hp.new (r0).1 (74 : TypeId) (.p TS1) (List.replicate (Int.toNat ((List.length (r0).2) : Int)) ((0 : Int), ((0 : Int), (ByteArray.mk (List.toArray []))))))))) := by kernel_rfl
theorem diffRunes_l0_eq (K k : Nat) (x0 : Rf) (x1 : Rf) (x6 : Rf) (x7 : Int) (x8 : Int) (x18 : List (TS0.den)) (x19 : Int) (x20 : Int) (h : Hp) : diffRunes_l0 K (k + 1) x0 x1 x6 x7 x8 x18 x19 x20 h =
  br (ltI x20 x19)
  (diffRunes_j0 K k x0 x1 x6 x7 x8 x18 x19 x20 h)
  (some (h, x6)) := by kernel_rfl
theorem diffRunes_j0_eq (K k : Nat) (x0 : Rf) (x1 : Rf) (x6 : Rf) (x7 : Int) (x8 : Int) (x18 : List (TS0.den)) (x19 : Int) (x20 : Int) (h : Hp) : diffRunes_j0 K (k + 1) x0 x1 x6 x7 x8 x18 x19 x20 h =
  chk (leI (0 : Int) x20) (chk (ltI x20 ((List.length x18) : Int)) (chk (leI (0 : Int) x7) (chk (leI x7 ((nth TS0 x18 x20)).1) (chk (leI ((nth TS0 x18 x20)).1 ((rlen x0) : Int)) (Option.bind ((Hp.rd h (.int (.i32)) (rcut 1 (Int.toNat x7) (Int.toNat ((nth TS0 x18 x20)).1) x0))) fun r0 =>
  Option.bind (runesLen K r0) fun r1 =>
  chk (leI (0 : Int) ((nth TS0 x18 x20)).1) (chk (leI ((nth TS0 x18 x20)).1 (((nth TS0 x18 x20)).2).1) (chk (leI (((nth TS0 x18 x20)).2).1 ((rlen x0) : Int)) (Option.bind ((Hp.rd h (.int (.i32)) (rcut 1 (Int.toNat ((nth TS0 x18 x20)).1) (Int.toNat (((nth TS0 x18 x20)).2).1) x0))) fun r2 =>
  Option.bind (runesLen K r2) fun r3 =>
  chk (leI (0 : Int) ((((nth TS0 x18 x20)).2).2).1) (chk (leI ((((nth TS0 x18 x20)).2).2).1 ((((nth TS0 x18 x20)).2).2).2) (chk (leI ((((nth TS0 x18 x20)).2).2).2 ((rlen x1) : Int)) (Option.bind ((Hp.rd h (.int (.i32)) (rcut 1 (Int.toNat ((((nth TS0 x18 x20)).2).2).1) (Int.toNat ((((nth TS0 x18 x20)).2).2).2) x1))) fun r4 =>
  chk (leI (0 : Int) x20) (chk (ltI x20 ((rlen x6) : Int)) (Option.bind ((Hp.st h (.p TS1) (radr 3 (Int.toNat x20) x6) ((IntKind.wrap IntKind.i64 (x8 + r1)), ((IntKind.wrap IntKind.i64 ((IntKind.wrap IntKind.i64 (x8 + r1)) + r3)), (strOfRunes r4))))) fun r5 =>
  diffRunes_l0 K k x0 x1 x6 (((nth TS0 x18 x20)).2).1 (IntKind.wrap IntKind.i64 ((IntKind.wrap IntKind.i64 (x8 + r1)) + r3)) x18 x19 (IntKind.wrap IntKind.i64 (x20 + (1 : Int))) r5))))))))))))) := by kernel_rfl
theorem DiffBytes_eq (K : Nat) (x0 : Hp) (x1 : Rf) (x2 : Rf) : DiffBytes (K + 1) x0 x1 x2 =
  Option.bind (diff K x0 (If.two 118 x1 x2)) fun r0 =>
  some ((r0).1, (r0).2) := by kernel_rfl
theorem DiffRunes_eq (K : Nat) (x0 : Hp) (x1 : Rf) (x2 : Rf) : DiffRunes (K + 1) x0 x1 x2 =
  Option.bind (diff K x0 (If.two 120 x1 x2)) fun r0 =>
  some ((r0).1, (r0).2) := by kernel_rfl
theorem runesLen_eq (K : Nat) (x0 : List Int) : runesLen (K + 1) x0 =
  runesLen_l0 K K (0 : Int) x0 ((List.length x0) : Int) (0 : Int) := by kernel_rfl
theorem runesLen_l0_eq (K k : Nat) (x2 : Int) (x5 : List (Int)) (x6 : Int) (x7 : Int) : runesLen_l0 K (k + 1) x2 x5 x6 x7 =
  br (ltI x7 x6)
  (runesLen_j0 K k x2 x5 x6 x7)
  (some x2) := by kernel_rfl
theorem runesLen_j0_eq (K k : Nat) (x2 : Int) (x5 : List (Int)) (x6 : Int) (x7 : Int) : runesLen_j0 K (k + 1) x2 x5 x6 x7 =
  chk (leI (0 : Int) x7) (chk (ltI x7 ((List.length x5) : Int)) (Option.bind (RuneLen K (nth (.int (.i32)) x5 x7)) fun r0 =>
  runesLen_l0 K k (IntKind.wrap IntKind.i64 (x2 + r0)) x5 x6 (IntKind.wrap IntKind.i64 (x7 + (1 : Int))))) := by kernel_rfl
theorem diff_eq (K : Nat) (x0 : Hp) (x1 : If) : diff (K + 1) x0 x1 =
  Option.bind (compute K x0 x1 (79, []) (50 : Int)) fun r0 =>
  some ((r0).1, ((r0).2).1) := by kernel_rfl
theorem RuneLen_eq (K : Nat) (x0 : Int) : RuneLen (K + 1) x0 =
  br (ltI x0 (0 : Int))
  (some (-1 : Int))
  (br (leI x0 (127 : Int))
   (some (1 : Int))
   (br (leI x0 (2047 : Int))
    (some (2 : Int))
    (br (leI (55296 : Int) x0)
     (RuneLen_j0 K K x0 (leI x0 (57343 : Int)))
     (RuneLen_j0 K K x0 Bool.false)))) := by kernel_rfl
theorem RuneLen_j0_eq (K k : Nat) (x0 : Int) (x12 : Bool) : RuneLen_j0 K (k + 1) x0 x12 =
  br x12
  (some (-1 : Int))
  (br (leI x0 (65535 : Int))
   (some (3 : Int))
   (br (leI x0 (1114111 : Int))
    (some (4 : Int))
    (some (-1 : Int)))) := by kernel_rfl
end Go.Proofs.Ytfglahmbnnkijaa.E
