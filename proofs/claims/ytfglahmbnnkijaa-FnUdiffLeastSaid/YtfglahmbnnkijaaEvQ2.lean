import Derived.Test.YtfglahmbnnkijaaEvT
/- Written by a program of this session (wip/ev4dev): what the functions' places evaluate to. Not trusted: Lean checks it. -/
set_option linter.unusedVariables false
namespace Go.Proofs.Ytfglahmbnnkijaa.E
open Go.Ev
theorem overlap_j11_eq (K k : Nat) (i2 : Int) (x2 : List (TS2.den)) (i3 : Int) (x3 : List (TS2.den)) (i5 : Int) (x5 : List (TS2.den)) : overlap_j11 K (k + 1) i2 x2 i3 x3 i5 x5 =
  br (leI (IntKind.wrap IntKind.i64 (((nth TS2 x2 i2)).1 + (((nth TS2 x2 i2)).2).2)) ((nth TS2 x3 i3)).1)
  (overlap_j12 K k i3 x3 i5 x5 (leI (IntKind.wrap IntKind.i64 ((((nth TS2 x2 i2)).2).1 + (((nth TS2 x2 i2)).2).2)) (((nth TS2 x3 i3)).2).1))
  (overlap_j12 K k i3 x3 i5 x5 Bool.false) := by kernel_rfl
theorem overlap_j12_eq (K k : Nat) (i3 : Int) (x3 : List (TS2.den)) (i5 : Int) (x5 : List (TS2.den)) (x194 : Bool) : overlap_j12 K (k + 1) i3 x3 i5 x5 x194 =
  br x194
  (some ((2 : Int), (nth TS2 (List.set x5 (Int.toNat i5) (nth TS2 x3 i3)) i5)))
  (some ((3 : Int), (nth TS2 (List.set x5 (Int.toNat i5) (nth TS2 x3 i3)) i5))) := by kernel_rfl
theorem sort_1_eq (K : Nat) (x0 : TS2.den) (x1 : TS2.den) : sort_1 (K + 1) x0 x1 =
  br (Bool.not (eqI (x0).1 (x1).1))
  (some (ltI (x0).1 (x1).1))
  (sort_1_j0 K K (0 : Int) (x0 :: []) (0 : Int) (x1 :: [])) := by kernel_rfl
theorem sort_1_j0_eq (K k : Nat) (i2 : Int) (x2 : List (TS2.den)) (i3 : Int) (x3 : List (TS2.den)) : sort_1_j0 K (k + 1) i2 x2 i3 x3 =
  some (ltI (((nth TS2 x3 i3)).2).2 (((nth TS2 x2 i2)).2).2) := by kernel_rfl
theorem fdone_eq (K : Nat) (x0 : Hp) (x1 : Pf) (x2 : Int) (x3 : Int) : fdone (K + 1) x0 x1 x2 x3 =
  chk (Bool.not (pnil x1)) (chk (Bool.not (pnil x1)) (Option.bind (get K x0 (padd 1 x1) x2 x3) fun r0 =>
  chk (Bool.not (pnil x1)) (chk (Bool.not (pnil x1)) (Option.bind ((Hp.ld (r0).1 (.p (.int (.i64))) (padd 6 x1))) fun r1 =>
  br (eqI (r0).2 r1)
  (chk (Bool.not (pnil x1)) (chk (Bool.not (pnil x1)) (Option.bind ((Hp.ld (r0).1 (.p (.int (.i64))) (padd 7 x1))) fun r2 =>
   fdone_j0 K K x1 x2 x3 (eqI (IntKind.wrap IntKind.i64 ((r0).2 - x3)) r2) (r0).1)))
  (fdone_j0 K K x1 x2 x3 Bool.false (r0).1))))) := by kernel_rfl
theorem fdone_j0_eq (K k : Nat) (x0 : Pf) (x1 : Int) (x2 : Int) (x32 : Bool) (h : Hp) : fdone_j0 K (k + 1) x0 x1 x2 x32 h =
  br x32
  (Option.bind (forwardlcs K h x0 x1 x2) fun r0 =>
   some ((r0).1, (Bool.true, (r0).2)))
  (some (h, (Bool.false, Rf.nil))) := by kernel_rfl
theorem lcs_bytesSeqs_commonPrefixLen_eq (K : Nat) (x0 : Hp) (x1 : (Rf × Rf)) (x2 : Int) (x3 : Int) (x4 : Int) (x5 : Int) : lcs_bytesSeqs_commonPrefixLen (K + 1) x0 x1 x2 x3 x4 x5 =
  chk (Bool.not (pnil (Pf.at (x0).1 0))) (Option.bind ((Hp.ld (Hp.box x0 118 (.pair (.sr) (.one (.sr))) x1) (.sr) (padd 0 (Pf.at (x0).1 0)))) fun r0 =>
  chk (leI (0 : Int) x2) (chk (leI x2 x3) (chk (leI x3 x3) (chk (leI x3 ((rlen r0) : Int)) (chk (Bool.not (pnil (Pf.at (x0).1 0))) (Option.bind ((Hp.ld (Hp.box x0 118 (.pair (.sr) (.one (.sr))) x1) (.sr) (padd 1 (Pf.at (x0).1 0)))) fun r1 =>
  chk (leI (0 : Int) x4) (chk (leI x4 x5) (chk (leI x5 x5) (chk (leI x5 ((rlen r1) : Int)) (Option.bind ((Hp.rd (Hp.box x0 118 (.pair (.sr) (.one (.sr))) x1) (.int (.u8)) (rcut 1 (Int.toNat x2) (Int.toNat x3) r0))) fun r2 =>
  Option.bind ((Hp.rd (Hp.box x0 118 (.pair (.sr) (.one (.sr))) x1) (.int (.u8)) (rcut 1 (Int.toNat x4) (Int.toNat x5) r1))) fun r3 =>
  Option.bind (commonPrefixLen_byte_ K r2 r3) fun r4 =>
  some ((Hp.box x0 118 (.pair (.sr) (.one (.sr))) x1), r4))))))))))) := by kernel_rfl
theorem lcs_bytesSeqs_commonSuffixLen_eq (K : Nat) (x0 : Hp) (x1 : (Rf × Rf)) (x2 : Int) (x3 : Int) (x4 : Int) (x5 : Int) : lcs_bytesSeqs_commonSuffixLen (K + 1) x0 x1 x2 x3 x4 x5 =
  chk (Bool.not (pnil (Pf.at (x0).1 0))) (Option.bind ((Hp.ld (Hp.box x0 118 (.pair (.sr) (.one (.sr))) x1) (.sr) (padd 0 (Pf.at (x0).1 0)))) fun r0 =>
  chk (leI (0 : Int) x2) (chk (leI x2 x3) (chk (leI x3 x3) (chk (leI x3 ((rlen r0) : Int)) (chk (Bool.not (pnil (Pf.at (x0).1 0))) (Option.bind ((Hp.ld (Hp.box x0 118 (.pair (.sr) (.one (.sr))) x1) (.sr) (padd 1 (Pf.at (x0).1 0)))) fun r1 =>
  chk (leI (0 : Int) x4) (chk (leI x4 x5) (chk (leI x5 x5) (chk (leI x5 ((rlen r1) : Int)) (Option.bind ((Hp.rd (Hp.box x0 118 (.pair (.sr) (.one (.sr))) x1) (.int (.u8)) (rcut 1 (Int.toNat x2) (Int.toNat x3) r0))) fun r2 =>
  Option.bind ((Hp.rd (Hp.box x0 118 (.pair (.sr) (.one (.sr))) x1) (.int (.u8)) (rcut 1 (Int.toNat x4) (Int.toNat x5) r1))) fun r3 =>
  Option.bind (commonSuffixLen_byte_ K r2 r3) fun r4 =>
  some ((Hp.box x0 118 (.pair (.sr) (.one (.sr))) x1), r4))))))))))) := by kernel_rfl
theorem lcs_bytesSeqs_lengths_eq (K : Nat) (x0 : Hp) (x1 : (Rf × Rf)) : lcs_bytesSeqs_lengths (K + 1) x0 x1 =
  chk (Bool.not (pnil (Pf.at (x0).1 0))) (Option.bind ((Hp.ld (Hp.box x0 118 (.pair (.sr) (.one (.sr))) x1) (.sr) (padd 0 (Pf.at (x0).1 0)))) fun r0 =>
  chk (Bool.not (pnil (Pf.at (x0).1 0))) (Option.bind ((Hp.ld (Hp.box x0 118 (.pair (.sr) (.one (.sr))) x1) (.sr) (padd 1 (Pf.at (x0).1 0)))) fun r1 =>
  some ((Hp.box x0 118 (.pair (.sr) (.one (.sr))) x1), (((rlen r0) : Int), ((rlen r1) : Int))))) := by kernel_rfl
theorem commonPrefixLen_byte__eq (K : Nat) (x0 : List Int) (x1 : List Int) : commonPrefixLen_byte_ (K + 1) x0 x1 =
  commonPrefixLen_byte__l0 K K x0 x1 (cond (ltI ((List.length x1) : Int) ((List.length x0) : Int)) ((List.length x1) : Int) ((List.length x0) : Int)) (0 : Int) := by kernel_rfl
theorem commonPrefixLen_byte__l0_eq (K k : Nat) (x0 : List (Int)) (x1 : List (Int)) (x5 : Int) (x6 : Int) : commonPrefixLen_byte__l0 K (k + 1) x0 x1 x5 x6 =
  br (ltI x6 x5)
  (chk (leI (0 : Int) x6) (chk (ltI x6 ((List.length x0) : Int)) (chk (leI (0 : Int) x6) (chk (ltI x6 ((List.length x1) : Int)) (br (eqI (nth (.int (.u8)) x0 x6) (nth (.int (.u8)) x1 x6))
   (commonPrefixLen_byte__j0 K k x0 x1 x5 x6)
   (some x6))))))
  (some x6) := by kernel_rfl
theorem commonPrefixLen_byte__j0_eq (K k : Nat) (x0 : List (Int)) (x1 : List (Int)) (x5 : Int) (x6 : Int) : commonPrefixLen_byte__j0 K (k + 1) x0 x1 x5 x6 =
  commonPrefixLen_byte__l0 K k x0 x1 x5 (IntKind.wrap IntKind.i64 (x6 + (1 : Int))) := by kernel_rfl
theorem commonSuffixLen_byte__eq (K : Nat) (x0 : List Int) (x1 : List Int) : commonSuffixLen_byte_ (K + 1) x0 x1 =
  commonSuffixLen_byte__l0 K K x0 x1 (cond (ltI ((List.length x1) : Int) ((List.length x0) : Int)) ((List.length x1) : Int) ((List.length x0) : Int)) (0 : Int) := by kernel_rfl
theorem commonSuffixLen_byte__l0_eq (K k : Nat) (x0 : List (Int)) (x1 : List (Int)) (x5 : Int) (x6 : Int) : commonSuffixLen_byte__l0 K (k + 1) x0 x1 x5 x6 =
  br (ltI x6 x5)
  (chk (leI (0 : Int) (IntKind.wrap IntKind.i64 ((IntKind.wrap IntKind.i64 (((List.length x0) : Int) - (1 : Int))) - x6))) (chk (ltI (IntKind.wrap IntKind.i64 ((IntKind.wrap IntKind.i64 (((List.length x0) : Int) - (1 : Int))) - x6)) ((List.length x0) : Int)) (chk (leI (0 : Int) (IntKind.wrap IntKind.i64 ((IntKind.wrap IntKind.i64 (((List.length x1) : Int) - (1 : Int))) - x6))) (chk (ltI (IntKind.wrap IntKind.i64 ((IntKind.wrap IntKind.i64 (((List.length x1) : Int) - (1 : Int))) - x6)) ((List.length x1) : Int)) (br (eqI (nth (.int (.u8)) x0 (IntKind.wrap IntKind.i64 ((IntKind.wrap IntKind.i64 (((List.length x0) : Int) - (1 : Int))) - x6))) (nth (.int (.u8)) x1 (IntKind.wrap IntKind.i64 ((IntKind.wrap IntKind.i64 (((List.length x1) : Int) - (1 : Int))) - x6))))
   (commonSuffixLen_byte__j0 K k x0 x1 x5 x6)
   (some x6))))))
  (some x6) := by kernel_rfl
theorem commonSuffixLen_byte__j0_eq (K k : Nat) (x0 : List (Int)) (x1 : List (Int)) (x5 : Int) (x6 : Int) : commonSuffixLen_byte__j0 K (k + 1) x0 x1 x5 x6 =
  commonSuffixLen_byte__l0 K k x0 x1 x5 (IntKind.wrap IntKind.i64 (x6 + (1 : Int))) := by kernel_rfl
theorem lcs_runesSeqs_commonPrefixLen_eq (K : Nat) (x0 : Hp) (x1 : (Rf × Rf)) (x2 : Int) (x3 : Int) (x4 : Int) (x5 : Int) : lcs_runesSeqs_commonPrefixLen (K + 1) x0 x1 x2 x3 x4 x5 =
  chk (Bool.not (pnil (Pf.at (x0).1 0))) (Option.bind ((Hp.ld (Hp.box x0 120 (.pair (.sr) (.one (.sr))) x1) (.sr) (padd 0 (Pf.at (x0).1 0)))) fun r0 =>
  chk (leI (0 : Int) x2) (chk (leI x2 x3) (chk (leI x3 x3) (chk (leI x3 ((rlen r0) : Int)) (chk (Bool.not (pnil (Pf.at (x0).1 0))) (Option.bind ((Hp.ld (Hp.box x0 120 (.pair (.sr) (.one (.sr))) x1) (.sr) (padd 1 (Pf.at (x0).1 0)))) fun r1 =>
  chk (leI (0 : Int) x4) (chk (leI x4 x5) (chk (leI x5 x5) (chk (leI x5 ((rlen r1) : Int)) (Option.bind ((Hp.rd (Hp.box x0 120 (.pair (.sr) (.one (.sr))) x1) (.int (.i32)) (rcut 1 (Int.toNat x2) (Int.toNat x3) r0))) fun r2 =>
  Option.bind ((Hp.rd (Hp.box x0 120 (.pair (.sr) (.one (.sr))) x1) (.int (.i32)) (rcut 1 (Int.toNat x4) (Int.toNat x5) r1))) fun r3 =>
  Option.bind (commonPrefixLen_rune_ K r2 r3) fun r4 =>
  some ((Hp.box x0 120 (.pair (.sr) (.one (.sr))) x1), r4))))))))))) := by kernel_rfl
theorem lcs_runesSeqs_commonSuffixLen_eq (K : Nat) (x0 : Hp) (x1 : (Rf × Rf)) (x2 : Int) (x3 : Int) (x4 : Int) (x5 : Int) : lcs_runesSeqs_commonSuffixLen (K + 1) x0 x1 x2 x3 x4 x5 =
  chk (Bool.not (pnil (Pf.at (x0).1 0))) (Option.bind ((Hp.ld (Hp.box x0 120 (.pair (.sr) (.one (.sr))) x1) (.sr) (padd 0 (Pf.at (x0).1 0)))) fun r0 =>
  chk (leI (0 : Int) x2) (chk (leI x2 x3) (chk (leI x3 x3) (chk (leI x3 ((rlen r0) : Int)) (chk (Bool.not (pnil (Pf.at (x0).1 0))) (Option.bind ((Hp.ld (Hp.box x0 120 (.pair (.sr) (.one (.sr))) x1) (.sr) (padd 1 (Pf.at (x0).1 0)))) fun r1 =>
  chk (leI (0 : Int) x4) (chk (leI x4 x5) (chk (leI x5 x5) (chk (leI x5 ((rlen r1) : Int)) (Option.bind ((Hp.rd (Hp.box x0 120 (.pair (.sr) (.one (.sr))) x1) (.int (.i32)) (rcut 1 (Int.toNat x2) (Int.toNat x3) r0))) fun r2 =>
  Option.bind ((Hp.rd (Hp.box x0 120 (.pair (.sr) (.one (.sr))) x1) (.int (.i32)) (rcut 1 (Int.toNat x4) (Int.toNat x5) r1))) fun r3 =>
  Option.bind (commonSuffixLen_rune_ K r2 r3) fun r4 =>
  some ((Hp.box x0 120 (.pair (.sr) (.one (.sr))) x1), r4))))))))))) := by kernel_rfl
theorem lcs_runesSeqs_lengths_eq (K : Nat) (x0 : Hp) (x1 : (Rf × Rf)) : lcs_runesSeqs_lengths (K + 1) x0 x1 =
  chk (Bool.not (pnil (Pf.at (x0).1 0))) (Option.bind ((Hp.ld (Hp.box x0 120 (.pair (.sr) (.one (.sr))) x1) (.sr) (padd 0 (Pf.at (x0).1 0)))) fun r0 =>
  chk (Bool.not (pnil (Pf.at (x0).1 0))) (Option.bind ((Hp.ld (Hp.box x0 120 (.pair (.sr) (.one (.sr))) x1) (.sr) (padd 1 (Pf.at (x0).1 0)))) fun r1 =>
  some ((Hp.box x0 120 (.pair (.sr) (.one (.sr))) x1), (((rlen r0) : Int), ((rlen r1) : Int))))) := by kernel_rfl
theorem commonPrefixLen_rune__eq (K : Nat) (x0 : List Int) (x1 : List Int) : commonPrefixLen_rune_ (K + 1) x0 x1 =
  commonPrefixLen_rune__l0 K K x0 x1 (cond (ltI ((List.length x1) : Int) ((List.length x0) : Int)) ((List.length x1) : Int) ((List.length x0) : Int)) (0 : Int) := by kernel_rfl
theorem commonPrefixLen_rune__l0_eq (K k : Nat) (x0 : List (Int)) (x1 : List (Int)) (x5 : Int) (x6 : Int) : commonPrefixLen_rune__l0 K (k + 1) x0 x1 x5 x6 =
  br (ltI x6 x5)
  (chk (leI (0 : Int) x6) (chk (ltI x6 ((List.length x0) : Int)) (chk (leI (0 : Int) x6) (chk (ltI x6 ((List.length x1) : Int)) (br (eqI (nth (.int (.i32)) x0 x6) (nth (.int (.i32)) x1 x6))
   (commonPrefixLen_rune__j0 K k x0 x1 x5 x6)
   (some x6))))))
  (some x6) := by kernel_rfl
theorem commonPrefixLen_rune__j0_eq (K k : Nat) (x0 : List (Int)) (x1 : List (Int)) (x5 : Int) (x6 : Int) : commonPrefixLen_rune__j0 K (k + 1) x0 x1 x5 x6 =
  commonPrefixLen_rune__l0 K k x0 x1 x5 (IntKind.wrap IntKind.i64 (x6 + (1 : Int))) := by kernel_rfl
theorem commonSuffixLen_rune__eq (K : Nat) (x0 : List Int) (x1 : List Int) : commonSuffixLen_rune_ (K + 1) x0 x1 =
  commonSuffixLen_rune__l0 K K x0 x1 (cond (ltI ((List.length x1) : Int) ((List.length x0) : Int)) ((List.length x1) : Int) ((List.length x0) : Int)) (0 : Int) := by kernel_rfl
theorem commonSuffixLen_rune__l0_eq (K k : Nat) (x0 : List (Int)) (x1 : List (Int)) (x5 : Int) (x6 : Int) : commonSuffixLen_rune__l0 K (k + 1) x0 x1 x5 x6 =
  br (ltI x6 x5)
  (chk (leI (0 : Int) (IntKind.wrap IntKind.i64 ((IntKind.wrap IntKind.i64 (((List.length x0) : Int) - (1 : Int))) - x6))) (chk (ltI (IntKind.wrap IntKind.i64 ((IntKind.wrap IntKind.i64 (((List.length x0) : Int) - (1 : Int))) - x6)) ((List.length x0) : Int)) (chk (leI (0 : Int) (IntKind.wrap IntKind.i64 ((IntKind.wrap IntKind.i64 (((List.length x1) : Int) - (1 : Int))) - x6))) (chk (ltI (IntKind.wrap IntKind.i64 ((IntKind.wrap IntKind.i64 (((List.length x1) : Int) - (1 : Int))) - x6)) ((List.length x1) : Int)) (br (eqI (nth (.int (.i32)) x0 (IntKind.wrap IntKind.i64 ((IntKind.wrap IntKind.i64 (((List.length x0) : Int) - (1 : Int))) - x6))) (nth (.int (.i32)) x1 (IntKind.wrap IntKind.i64 ((IntKind.wrap IntKind.i64 (((List.length x1) : Int) - (1 : Int))) - x6))))
   (commonSuffixLen_rune__j0 K k x0 x1 x5 x6)
   (some x6))))))
  (some x6) := by kernel_rfl
theorem commonSuffixLen_rune__j0_eq (K k : Nat) (x0 : List (Int)) (x1 : List (Int)) (x5 : Int) (x6 : Int) : commonSuffixLen_rune__j0 K (k + 1) x0 x1 x5 x6 =
  commonSuffixLen_rune__l0 K k x0 x1 x5 (IntKind.wrap IntKind.i64 (x6 + (1 : Int))) := by kernel_rfl
end Go.Proofs.Ytfglahmbnnkijaa.E
