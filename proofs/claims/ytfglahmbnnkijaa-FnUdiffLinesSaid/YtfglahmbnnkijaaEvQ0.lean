import Derived.Test.YtfglahmbnnkijaaEvT
/- Written by a program of this session (wip/ev4dev): what the functions' places evaluate to. Not trusted: Lean checks it. -/
set_option linter.unusedVariables false
namespace Go.Proofs.Ytfglahmbnnkijaa.E
open Go.Ev
theorem FnUdiffLines_eq (K : Nat) (x0 : ByteArray) (x1 : ByteArray) : FnUdiffLines (K + 1) x0 x1 =
  br (ltI (2147483647 : Int) ((ByteArray.size x0) : Int))
  (FnUdiffLines_j0 K K x0 x1 Bool.true)
  (FnUdiffLines_j0 K K x0 x1 (ltI (2147483647 : Int) ((ByteArray.size x1) : Int))) := by kernel_rfl
theorem FnUdiffLines_j0_eq (K k : Nat) (x0 : ByteArray) (x1 : ByteArray) (x12 : Bool) : FnUdiffLines_j0 K (k + 1) x0 x1 x12 =
  br x12
  (some Bool.true)
  (FnUdiffLines_j1 K k x0 x1) := by kernel_rfl
theorem FnUdiffLines_j1_eq (K k : Nat) (x0 : ByteArray) (x1 : ByteArray) : FnUdiffLines_j1 K (k + 1) x0 x1 =
  Option.bind (editTexts K x0 x1) fun r0 =>
  br (Bool.not r0)
  (Option.bind (editAwake K) fun r1 =>
   some r1)
  (FnUdiffLines_j2 K k x0 x1) := by kernel_rfl
theorem FnUdiffLines_j2_eq (K k : Nat) (x0 : ByteArray) (x1 : ByteArray) : FnUdiffLines_j2 K (k + 1) x0 x1 =
  Option.bind (editAwake K) fun r0 =>
  br r0
  (Option.bind (EditLines K x0 x1) fun r1 =>
   Option.bind (editOf K Hp.empty r1) fun r2 =>
   Option.bind (editLines K (r2).1 x0 x1 (r2).2) fun r3 =>
   some (r3).2)
  (some Bool.false) := by kernel_rfl
theorem CleanChars_eq (K : Nat) (x0 : ByteArray) (x1 : Int) : CleanChars (K + 1) x0 x1 =
  br (leI ((ByteArray.size x0) : Int) x1)
  (chk (nleI (List.length (runesI x0)) 70368744177664) (some (eqS (strOfRunes (runesI x0)) x0)))
  (some Bool.false) := by kernel_rfl
theorem editOf_eq (K : Nat) (x0 : Hp) (x1 : List TS1.den) : editOf (K + 1) x0 x1 =
  editOf_l0 K K Rf.nil x1 ((List.length x1) : Int) (0 : Int) x0 := by kernel_rfl
theorem editOf_l0_eq (K k : Nat) (x3 : Rf) (x6 : List (TS1.den)) (x7 : Int) (x8 : Int) (h : Hp) : editOf_l0 K (k + 1) x3 x6 x7 x8 h =
  br (ltI x8 x7)
  (editOf_j0 K k x3 x6 x7 x8 h)
  (some (h, x3)) := by kernel_rfl
theorem editOf_j0_eq (K k : Nat) (x3 : Rf) (x6 : List (TS1.den)) (x7 : Int) (x8 : Int) (h : Hp) : editOf_j0 K (k + 1) x3 x6 x7 x8 h =
  chk (leI (0 : Int) x8) (chk (ltI x8 ((List.length x6) : Int)) (Option.bind ((Hp.cs (Hp.new h (41 : TypeId) (.p TS1) ((nth TS1 x6 x8) :: [])) 3 (Rf.at (h).1 0 1))) fun r0 =>
  chk (ltI (((rlen x3) : Int) + ((r0).2 : Int)) (1000000000000 : Int)) (Option.bind ((Hp.app (Hp.new h (41 : TypeId) (.p TS1) ((nth TS1 x6 x8) :: [])) (41 : TypeId) 3 (r0).1 (r0).2 x3)) fun r1 =>
  editOf_l0 K k (r1).1 x6 x7 (IntKind.wrap IntKind.i64 (x8 + (1 : Int))) (r1).2))) := by kernel_rfl
theorem EditsLead_eq (K : Nat) (x0 : Hp) (x1 : Rf) (x2 : ByteArray) (x3 : ByteArray) : EditsLead (K + 1) x0 x1 x2 x3 =
  Option.bind (EditsIn K x0 x1 ((ByteArray.size x2) : Int)) fun r0 =>
  br (Bool.not (r0).2)
  (EditsLead_j0 K K x1 x2 x3 Bool.true (r0).1)
  (Option.bind (EditsApart K (r0).1 x1) fun r1 =>
   EditsLead_j0 K K x1 x2 x3 (Bool.not (r1).2) (r1).1) := by kernel_rfl
theorem EditsLead_j0_eq (K k : Nat) (x0 : Rf) (x1 : ByteArray) (x2 : ByteArray) (x17 : Bool) (h : Hp) : EditsLead_j0 K (k + 1) x0 x1 x2 x17 h =
  br x17
  (some (h, Bool.false))
  (EditsLead_j1 K k x0 x1 x2 h) := by kernel_rfl
theorem EditsLead_j1_eq (K k : Nat) (x0 : Rf) (x1 : ByteArray) (x2 : ByteArray) (h : Hp) : EditsLead_j1 K (k + 1) x0 x1 x2 h =
  EditsLead_l0 K k x0 x1 x2 (1 : Int) h := by kernel_rfl
theorem EditsLead_l0_eq (K k : Nat) (x0 : Rf) (x1 : ByteArray) (x2 : ByteArray) (x7 : Int) (h : Hp) : EditsLead_l0 K (k + 1) x0 x1 x2 x7 h =
  br (ltI x7 ((rlen x0) : Int))
  (EditsLead_j2 K k x0 x1 x2 x7 h)
  (EditsLead_j3 K k x0 x1 x2 h) := by kernel_rfl
theorem EditsLead_j2_eq (K k : Nat) (x0 : Rf) (x1 : ByteArray) (x2 : ByteArray) (x7 : Int) (h : Hp) : EditsLead_j2 K (k + 1) x0 x1 x2 x7 h =
  chk (leI (0 : Int) x7) (chk (ltI x7 ((rlen x0) : Int)) (Option.bind ((Hp.ld h (.p TS1) (radr 3 (Int.toNat x7) x0))) fun r0 =>
  chk (leI (0 : Int) (IntKind.wrap IntKind.i64 (x7 - (1 : Int)))) (chk (ltI (IntKind.wrap IntKind.i64 (x7 - (1 : Int))) ((rlen x0) : Int)) (Option.bind ((Hp.ld h (.p TS1) (radr 3 (Int.toNat (IntKind.wrap IntKind.i64 (x7 - (1 : Int)))) x0))) fun r1 =>
  Option.bind (EditBefore K r0 r1) fun r2 =>
  br r2
  (some (h, Bool.false))
  (EditsLead_l0 K k x0 x1 x2 (IntKind.wrap IntKind.i64 (x7 + (1 : Int))) h))))) := by kernel_rfl
theorem EditsLead_j3_eq (K k : Nat) (x0 : Rf) (x1 : ByteArray) (x2 : ByteArray) (h : Hp) : EditsLead_j3 K (k + 1) x0 x1 x2 h =
  Option.bind (EditsApplied K h x1 x0) fun r0 =>
  some ((r0).1, (eqS (r0).2 x2)) := by kernel_rfl
theorem editTexts_eq (K : Nat) (x0 : ByteArray) (x1 : ByteArray) : editTexts (K + 1) x0 x1 =
  Option.bind (CleanChars K x0 (200 : Int)) fun r0 =>
  br r0
  (Option.bind (CleanChars K x1 (200 : Int)) fun r1 =>
   some r1)
  (some Bool.false) := by kernel_rfl
theorem EditsIn_eq (K : Nat) (x0 : Hp) (x1 : Rf) (x2 : Int) : EditsIn (K + 1) x0 x1 x2 =
  EditsIn_l0 K K x2 x1 ((rlen x1) : Int) (0 : Int) x0 := by kernel_rfl
theorem EditsIn_l0_eq (K k : Nat) (x1 : Int) (x7 : Rf) (x8 : Int) (x9 : Int) (h : Hp) : EditsIn_l0 K (k + 1) x1 x7 x8 x9 h =
  br (ltI x9 x8)
  (EditsIn_j0 K k x1 x7 x8 x9 h)
  (some (h, Bool.true)) := by kernel_rfl
theorem EditsIn_j0_eq (K k : Nat) (x1 : Int) (x7 : Rf) (x8 : Int) (x9 : Int) (h : Hp) : EditsIn_j0 K (k + 1) x1 x7 x8 x9 h =
  chk (leI (0 : Int) x9) (chk (ltI x9 ((rlen x7) : Int)) (Option.bind ((Hp.ld h (.p TS1) (radr 3 (Int.toNat x9) x7))) fun r0 =>
  br (ltI (r0).1 (0 : Int))
  (EditsIn_j1 K k x1 x7 x8 x9 Bool.true h)
  (br (ltI ((r0).2).1 (r0).1)
   (EditsIn_j1 K k x1 x7 x8 x9 Bool.true h)
   (EditsIn_j1 K k x1 x7 x8 x9 (ltI x1 ((r0).2).1) h)))) := by kernel_rfl
theorem EditsIn_j1_eq (K k : Nat) (x1 : Int) (x7 : Rf) (x8 : Int) (x9 : Int) (x28 : Bool) (h : Hp) : EditsIn_j1 K (k + 1) x1 x7 x8 x9 x28 h =
  br x28
  (some (h, Bool.false))
  (EditsIn_l0 K k x1 x7 x8 (IntKind.wrap IntKind.i64 (x9 + (1 : Int))) h) := by kernel_rfl
theorem EditsApart_eq (K : Nat) (x0 : Hp) (x1 : Rf) : EditsApart (K + 1) x0 x1 =
  EditsApart_l0 K K x1 (1 : Int) x0 := by kernel_rfl
theorem EditsApart_l0_eq (K k : Nat) (x0 : Rf) (x3 : Int) (h : Hp) : EditsApart_l0 K (k + 1) x0 x3 h =
  br (ltI x3 ((rlen x0) : Int))
  (EditsApart_j0 K k x0 x3 h)
  (some (h, Bool.true)) := by kernel_rfl
theorem EditsApart_j0_eq (K k : Nat) (x0 : Rf) (x3 : Int) (h : Hp) : EditsApart_j0 K (k + 1) x0 x3 h =
  chk (leI (0 : Int) x3) (chk (ltI x3 ((rlen x0) : Int)) (chk (Bool.not (pnil (radr 3 (Int.toNat x3) x0))) (Option.bind ((Hp.ld h (.p (.int (.i64))) (padd 0 (radr 3 (Int.toNat x3) x0)))) fun r0 =>
  chk (leI (0 : Int) (IntKind.wrap IntKind.i64 (x3 - (1 : Int)))) (chk (ltI (IntKind.wrap IntKind.i64 (x3 - (1 : Int))) ((rlen x0) : Int)) (chk (Bool.not (pnil (radr 3 (Int.toNat (IntKind.wrap IntKind.i64 (x3 - (1 : Int)))) x0))) (Option.bind ((Hp.ld h (.p (.int (.i64))) (padd 1 (radr 3 (Int.toNat (IntKind.wrap IntKind.i64 (x3 - (1 : Int)))) x0)))) fun r1 =>
  br (ltI r0 r1)
  (some (h, Bool.false))
  (EditsApart_l0 K k x0 (IntKind.wrap IntKind.i64 (x3 + (1 : Int))) h))))))) := by kernel_rfl
theorem EditsApplied_eq (K : Nat) (x0 : Hp) (x1 : ByteArray) (x2 : Rf) : EditsApplied (K + 1) x0 x1 x2 =
  EditsApplied_l0 K K x1 (ByteArray.mk (List.toArray [])) (0 : Int) x2 ((rlen x2) : Int) (0 : Int) x0 := by kernel_rfl
theorem EditsApplied_l0_eq (K k : Nat) (x0 : ByteArray) (x5 : ByteArray) (x6 : Int) (x9 : Rf) (x10 : Int) (x11 : Int) (h : Hp) : EditsApplied_l0 K (k + 1) x0 x5 x6 x9 x10 x11 h =
  br (ltI x11 x10)
  (EditsApplied_j0 K k x0 x5 x6 x9 x10 x11 h)
  (EditsApplied_j1 K k x0 x5 x6 h) := by kernel_rfl
theorem EditsApplied_j0_eq (K k : Nat) (x0 : ByteArray) (x5 : ByteArray) (x6 : Int) (x9 : Rf) (x10 : Int) (x11 : Int) (h : Hp) : EditsApplied_j0 K (k + 1) x0 x5 x6 x9 x10 x11 h =
  chk (leI (0 : Int) x11) (chk (ltI x11 ((rlen x9) : Int)) (Option.bind ((Hp.ld h (.p TS1) (radr 3 (Int.toNat x11) x9))) fun r0 =>
  chk (leI (0 : Int) x6) (chk (leI x6 (r0).1) (chk (leI (r0).1 ((ByteArray.size x0) : Int)) (chk (nleI ((ByteArray.size (ByteArray.extract x0 (Int.toNat x6) (Int.toNat (r0).1))) + (ByteArray.size ((r0).2).2)) 9223372036854775807) (chk (nleI ((ByteArray.size x5) + (ByteArray.size (ByteArray.append (ByteArray.extract x0 (Int.toNat x6) (Int.toNat (r0).1)) ((r0).2).2))) 9223372036854775807) (EditsApplied_l0 K k x0 (ByteArray.append x5 (ByteArray.append (ByteArray.extract x0 (Int.toNat x6) (Int.toNat (r0).1)) ((r0).2).2)) ((r0).2).1 x9 x10 (IntKind.wrap IntKind.i64 (x11 + (1 : Int))) h))))))) := by kernel_rfl
theorem EditsApplied_j1_eq (K k : Nat) (x0 : ByteArray) (x5 : ByteArray) (x6 : Int) (h : Hp) : EditsApplied_j1 K (k + 1) x0 x5 x6 h =
  chk (leI (0 : Int) x6) (chk (leI x6 ((ByteArray.size x0) : Int)) (chk (leI ((ByteArray.size x0) : Int) ((ByteArray.size x0) : Int)) (chk (nleI ((ByteArray.size x5) + (ByteArray.size (ByteArray.extract x0 (Int.toNat x6) (Int.toNat ((ByteArray.size x0) : Int))))) 9223372036854775807) (some (h, (ByteArray.append x5 (ByteArray.extract x0 (Int.toNat x6) (Int.toNat ((ByteArray.size x0) : Int))))))))) := by kernel_rfl
theorem EditLines_eq (K : Nat) (x0 : ByteArray) (x1 : ByteArray) : EditLines (K + 1) x0 x1 =
  Option.bind (Lines K Hp.empty x0 x1) fun r0 =>
  Option.bind (backEdits K (r0).1 (r0).2) fun r1 =>
  some (r1).2 := by kernel_rfl
theorem editLines_eq (K : Nat) (x0 : Hp) (x1 : ByteArray) (x2 : ByteArray) (x3 : Rf) : editLines (K + 1) x0 x1 x2 x3 =
  editLines_l0 K K x1 x2 x3 x3 ((rlen x3) : Int) (0 : Int) x0 := by kernel_rfl
theorem editLines_l0_eq (K k : Nat) (x0 : ByteArray) (x1 : ByteArray) (x2 : Rf) (x9 : Rf) (x10 : Int) (x11 : Int) (h : Hp) : editLines_l0 K (k + 1) x0 x1 x2 x9 x10 x11 h =
  br (ltI x11 x10)
  (editLines_j0 K k x0 x1 x2 x9 x10 x11 h)
  (editLines_j1 K k x0 x1 x2 h) := by kernel_rfl
theorem editLines_j0_eq (K k : Nat) (x0 : ByteArray) (x1 : ByteArray) (x2 : Rf) (x9 : Rf) (x10 : Int) (x11 : Int) (h : Hp) : editLines_j0 K (k + 1) x0 x1 x2 x9 x10 x11 h =
  chk (leI (0 : Int) x11) (chk (ltI x11 ((rlen x9) : Int)) (Option.bind ((Hp.ld h (.p TS1) (radr 3 (Int.toNat x11) x9))) fun r0 =>
  Option.bind (EditLine K x0 (r0).1) fun r1 =>
  br (Bool.not r1)
  (editLines_j2 K k x0 x1 x2 x9 x10 x11 Bool.true h)
  (Option.bind (EditLine K x0 ((r0).2).1) fun r2 =>
   editLines_j2 K k x0 x1 x2 x9 x10 x11 (Bool.not r2) h))) := by kernel_rfl
theorem editLines_j1_eq (K k : Nat) (x0 : ByteArray) (x1 : ByteArray) (x2 : Rf) (h : Hp) : editLines_j1 K (k + 1) x0 x1 x2 h =
  Option.bind (EditsLead K h x2 x0 x1) fun r0 =>
  br (r0).2
  (br (Bool.not (eqS x0 x1))
   (some ((r0).1, Bool.true))
   (some ((r0).1, (eqI ((rlen x2) : Int) (0 : Int)))))
  (some ((r0).1, Bool.false)) := by kernel_rfl
theorem editLines_j2_eq (K k : Nat) (x0 : ByteArray) (x1 : ByteArray) (x2 : Rf) (x9 : Rf) (x10 : Int) (x11 : Int) (x26 : Bool) (h : Hp) : editLines_j2 K (k + 1) x0 x1 x2 x9 x10 x11 x26 h =
  br x26
  (some (h, Bool.false))
  (editLines_l0 K k x0 x1 x2 x9 x10 (IntKind.wrap IntKind.i64 (x11 + (1 : Int))) h) := by kernel_rfl
theorem backEdits_eq (K : Nat) (x0 : Hp) (x1 : Rf) : backEdits (K + 1) x0 x1 =
  backEdits_l0 K K [] x1 ((rlen x1) : Int) (0 : Int) x0 := by kernel_rfl
theorem backEdits_l0_eq (K k : Nat) (x3 : List (TS1.den)) (x6 : Rf) (x7 : Int) (x8 : Int) (h : Hp) : backEdits_l0 K (k + 1) x3 x6 x7 x8 h =
  br (ltI x8 x7)
  (backEdits_j0 K k x3 x6 x7 x8 h)
  (some (h, x3)) := by kernel_rfl
theorem backEdits_j0_eq (K k : Nat) (x3 : List (TS1.den)) (x6 : Rf) (x7 : Int) (x8 : Int) (h : Hp) : backEdits_j0 K (k + 1) x3 x6 x7 x8 h =
  chk (leI (0 : Int) x8) (chk (ltI x8 ((rlen x6) : Int)) (Option.bind ((Hp.ld h (.p TS1) (radr 3 (Int.toNat x8) x6))) fun r0 =>
  chk (ltI (((List.length x3) : Int) + ((List.length (((r0).1, (((r0).2).1, ((r0).2).2)) :: [])) : Int)) (1000000000000 : Int)) (backEdits_l0 K k (x3 ++ (((r0).1, (((r0).2).1, ((r0).2).2)) :: [])) x6 x7 (IntKind.wrap IntKind.i64 (x8 + (1 : Int))) h))) := by kernel_rfl
theorem EditBefore_eq (K : Nat) (x0 : TS1.den) (x1 : TS1.den) : EditBefore (K + 1) x0 x1 =
  br (ltI (x0).1 (x1).1)
  (some Bool.true)
  (br (eqI (x0).1 (x1).1)
   (some (ltI ((x0).2).1 ((x1).2).1))
   (some Bool.false)) := by kernel_rfl
theorem Lines_eq (K : Nat) (x0 : Hp) (x1 : ByteArray) (x2 : ByteArray) : Lines (K + 1) x0 x1 x2 =
  Option.bind (udiff_splitLines K x0 x1) fun r0 =>
  Option.bind (udiff_splitLines K (r0).1 x2) fun r1 =>
  Option.bind (DiffLines K (Hp.new (Hp.new (r1).1 (9 : TypeId) (.p (.str)) ((r0).2).1) (9 : TypeId) (.p (.str)) ((r1).2).1) (Rf.at ((r1).1).1 0 (List.length ((r0).2).1)) (Rf.at (Nat.succ ((r1).1).1) 0 (List.length ((r1).2).1))) fun r2 =>
  chk (leI (0 : Int) ((List.length (r2).2) : Int)) (chk (leI ((List.length (r2).2) : Int) ((List.length (r2).2) : Int)) (chk (ltI ((List.length (r2).2) : Int) (1000000000000 : Int)) (Lines_l0 K K ((r0).2).2 (Rf.at (Nat.succ ((r1).1).1) 0 (List.length ((r1).2).1)) (Rf.at ((r2).1).1 0 (Int.toNat ((List.length (r2).2) : Int))) (r2).2 ((List.length (r2).2) : Int) (0 : Int) (Hp.new (r2).1 (74 : TypeId) (.p TS1) (List.replicate (Int.toNat ((List.length (r2).2) : Int)) ((0 : Int), ((0 : Int), (ByteArray.mk (List.toArray []))))))))) := by kernel_rfl
theorem Lines_l0_eq (K k : Nat) (x6 : Rf) (x7 : Rf) (x10 : Rf) (x29 : List (TS0.den)) (x30 : Int) (x31 : Int) (h : Hp) : Lines_l0 K (k + 1) x6 x7 x10 x29 x30 x31 h =
  br (ltI x31 x30)
  (Lines_j0 K k x6 x7 x10 x29 x30 x31 h)
  (some (h, x10)) := by kernel_rfl
theorem Lines_j0_eq (K k : Nat) (x6 : Rf) (x7 : Rf) (x10 : Rf) (x29 : List (TS0.den)) (x30 : Int) (x31 : Int) (h : Hp) : Lines_j0 K (k + 1) x6 x7 x10 x29 x30 x31 h =
  chk (leI (0 : Int) x31) (chk (ltI x31 ((List.length x29) : Int)) (chk (leI (0 : Int) ((nth TS0 x29 x31)).1) (chk (ltI ((nth TS0 x29 x31)).1 ((rlen x6) : Int)) (Option.bind ((Hp.ld h (.p (.int (.i64))) (radr 1 (Int.toNat ((nth TS0 x29 x31)).1) x6))) fun r0 =>
  chk (leI (0 : Int) (((nth TS0 x29 x31)).2).1) (chk (ltI (((nth TS0 x29 x31)).2).1 ((rlen x6) : Int)) (Option.bind ((Hp.ld h (.p (.int (.i64))) (radr 1 (Int.toNat (((nth TS0 x29 x31)).2).1) x6))) fun r1 =>
  chk (leI (0 : Int) ((((nth TS0 x29 x31)).2).2).1) (chk (leI ((((nth TS0 x29 x31)).2).2).1 ((((nth TS0 x29 x31)).2).2).2) (chk (leI ((((nth TS0 x29 x31)).2).2).2 ((rlen x7) : Int)) (Option.bind ((Hp.rd h (.str) (rcut 1 (Int.toNat ((((nth TS0 x29 x31)).2).2).1) (Int.toNat ((((nth TS0 x29 x31)).2).2).2) x7))) fun r2 =>
  Option.bind (udiff_zzJoin K r2 (ByteArray.mk (List.toArray []))) fun r3 =>
  chk (leI (0 : Int) x31) (chk (ltI x31 ((rlen x10) : Int)) (Option.bind ((Hp.st h (.p TS1) (radr 3 (Int.toNat x31) x10) (r0, (r1, r3)))) fun r4 =>
  Lines_l0 K k x6 x7 x10 x29 x30 (IntKind.wrap IntKind.i64 (x31 + (1 : Int))) r4))))))))))) := by kernel_rfl
theorem EditLine_eq (K : Nat) (x0 : ByteArray) (x1 : Int) : EditLine (K + 1) x0 x1 =
  br (eqI x1 (0 : Int))
  (some Bool.true)
  (br (eqI x1 ((ByteArray.size x0) : Int))
   (some Bool.true)
   (br (ltI (0 : Int) x1)
    (br (ltI x1 ((ByteArray.size x0) : Int))
     (chk (leI (0 : Int) (IntKind.wrap IntKind.i64 (x1 - (1 : Int)))) (chk (ltI (IntKind.wrap IntKind.i64 (x1 - (1 : Int))) ((ByteArray.size x0) : Int)) (some (eqI (bt x0 (IntKind.wrap IntKind.i64 (x1 - (1 : Int)))) (10 : Int)))))
     (some Bool.false))
    (some Bool.false))) := by kernel_rfl
theorem udiff_splitLines_eq (K : Nat) (x0 : Hp) (x1 : ByteArray) : udiff_splitLines (K + 1) x0 x1 =
  udiff_splitLines_l0 K K x1 [] (Rf.at (x0).1 0 1) (0 : Int) (Pf.at (Nat.succ (x0).1) 0) (Hp.push (Hp.new x0 (3 : TypeId) (.p (.int (.i64))) ((0 : Int) :: [])) (Obj.iter x1 0)) := by kernel_rfl
theorem udiff_splitLines_l0_eq (K k : Nat) (x0 : ByteArray) (x4 : List (ByteArray)) (x5 : Rf) (x6 : Int) (x11 : Pf) (h : Hp) : udiff_splitLines_l0 K (k + 1) x0 x4 x5 x6 x11 h =
  Option.bind ((Hp.more h x11)) fun r0 =>
  br r0
  (Option.bind ((Hp.nxt h x11)) fun r1 =>
   udiff_splitLines_j0 K k x0 x4 x5 x6 x11 Bool.true (r1).1 ((r1).2).1 ((r1).2).2)
  (udiff_splitLines_j1 K k x0 x4 x5 x6 h) := by kernel_rfl
theorem udiff_splitLines_j0_eq (K k : Nat) (x0 : ByteArray) (x4 : List (ByteArray)) (x5 : Rf) (x6 : Int) (x11 : Pf) (x12_0 : Bool) (x12_1 : Int) (x12_2 : Int) (h : Hp) : udiff_splitLines_j0 K (k + 1) x0 x4 x5 x6 x11 x12_0 x12_1 x12_2 h =
  br (eqI x12_2 (10 : Int))
  (chk (leI (0 : Int) x6) (chk (leI x6 (IntKind.wrap IntKind.i64 (x12_1 + (1 : Int)))) (chk (leI (IntKind.wrap IntKind.i64 (x12_1 + (1 : Int))) ((ByteArray.size x0) : Int)) (chk (ltI (((List.length x4) : Int) + ((List.length ((ByteArray.extract x0 (Int.toNat x6) (Int.toNat (IntKind.wrap IntKind.i64 (x12_1 + (1 : Int))))) :: [])) : Int)) (1000000000000 : Int)) (Option.bind ((Hp.cs (Hp.new h (3 : TypeId) (.p (.int (.i64))) ((IntKind.wrap IntKind.i64 (x12_1 + (1 : Int))) :: [])) 1 (Rf.at (h).1 0 1))) fun r0 =>
   chk (ltI (((rlen x5) : Int) + ((r0).2 : Int)) (1000000000000 : Int)) (Option.bind ((Hp.app (Hp.new h (3 : TypeId) (.p (.int (.i64))) ((IntKind.wrap IntKind.i64 (x12_1 + (1 : Int))) :: [])) (3 : TypeId) 1 (r0).1 (r0).2 x5)) fun r1 =>
   udiff_splitLines_l0 K k x0 (x4 ++ ((ByteArray.extract x0 (Int.toNat x6) (Int.toNat (IntKind.wrap IntKind.i64 (x12_1 + (1 : Int))))) :: [])) (r1).1 (IntKind.wrap IntKind.i64 (x12_1 + (1 : Int))) x11 (r1).2))))))
  (udiff_splitLines_l0 K k x0 x4 x5 x6 x11 h) := by kernel_rfl
end Go.Proofs.Ytfglahmbnnkijaa.E
