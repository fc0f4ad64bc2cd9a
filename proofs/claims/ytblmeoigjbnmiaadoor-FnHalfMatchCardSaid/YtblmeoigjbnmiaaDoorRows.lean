/-
  NARROWER THAN 'FOR EVERY INPUT', by the rows' own cells (each row's printed sentence says how): FnHalfMatch: laid · FnHalfNone: laid · FnEfficiencyKeeps: laid · FnEfficiencyFewer: laid.
  DERIVED. THE GIVEN ROWS OF THIS SEAT. 4 by the template 'for every input the law returns true; each argument reads behind the call as it read before'; 0 by the template 'total and deterministic' (their statements: YtblmeoigjbnmiaaDoorTotals.lean).
  GIVEN WITH THE SEED: the statements are not yours to turn. If you find one false, say at which input.
  Laid BY PROGRAM, IN A SANDBOX (cutbox-rows.mjs): the forced cells as the released guide's own fill.sh prints them over the translation cc4dc94f11b1139b… (all of the seat's roots in one cut). By AI agents, Wed Nov 11 2026. No macro, syntax, notation, axiom, sorry.
-/
import Derived.Test.YtblmeoigjbnmiaaDoorChecked
import GoSem.PinnedTables
import GoSem.Claim
import GoSem.ClaimJoined
import GoSem.ClaimMapViews
import Derived.JoinedTies
import Derived.KernelRfl
namespace Go.Proofs.YtblmeoigjbnmiaaDoor
/- THE CELL 'sum', in the pinned program and in every row, IS THE sha256 OF THE DUMP (.gsa) THAT YtblmeoigjbnmiaaDoorProg.lean LOADS. Nothing in Lean hashes anything: it is a label: what it is worth is what the hold of that sum in a sandbox is worth. -/
noncomputable def Tryd.pinned : Pinned := { name := "ytblmeoigjbnmiaadoor", sum := "cc4dc94f11b1139bdb6bbc8e56118567727f50c00cc764b98fd6d38b790785ec", checked := Tryd.checked }
namespace Rows
def none {H : Type} : Left H := { results := [], args := [] }

/- WHAT THE LISTED PACKAGE-LEVEL VARIABLES READ AS WHEN THE CALL BEGINS. Each datum BY PROGRAM (the guide's laid-datum.mjs) off the statement by which the dump's own 'gosem.cut.vars' lays the variable. In a bare row this is a premise. The card (YtblmeoigjbnmiaaDoorCards.lean) ties it to the program's text. -/
def laid_unicode_utf8_acceptRanges {H : Type} : DataW H := .agg [.agg [.lit (.int .u8 128), .lit (.int .u8 191)], .agg [.lit (.int .u8 160), .lit (.int .u8 191)], .agg [.lit (.int .u8 128), .lit (.int .u8 159)], .agg [.lit (.int .u8 144), .lit (.int .u8 191)], .agg [.lit (.int .u8 128), .lit (.int .u8 143)], .agg [.lit (.int .u8 0), .lit (.int .u8 0)], .agg [.lit (.int .u8 0), .lit (.int .u8 0)], .agg [.lit (.int .u8 0), .lit (.int .u8 0)], .agg [.lit (.int .u8 0), .lit (.int .u8 0)], .agg [.lit (.int .u8 0), .lit (.int .u8 0)], .agg [.lit (.int .u8 0), .lit (.int .u8 0)], .agg [.lit (.int .u8 0), .lit (.int .u8 0)], .agg [.lit (.int .u8 0), .lit (.int .u8 0)], .agg [.lit (.int .u8 0), .lit (.int .u8 0)], .agg [.lit (.int .u8 0), .lit (.int .u8 0)], .agg [.lit (.int .u8 0), .lit (.int .u8 0)]]
/-- One of Go's own tables, pinned by name: the form's constant. -/
def laid_unicode_utf8_first : DataW Unit := Go.Pinned.utf8First

/-- 'laws.FnHalfMatch': WHATEVER THE INPUT: true; the input reads as it did. -/
def fnHalfMatchSpec : ChangeSpec := { name := "fnHalfMatch", fn := fun _ => fun
  | [d1, d2] => { results := [.lit (.bool true)], args := [d1, d2] }
  | _ => none }
def fnHalfMatchRow : OpenClaim := { program := "ytblmeoigjbnmiaadoor", sum := "cc4dc94f11b1139bdb6bbc8e56118567727f50c00cc764b98fd6d38b790785ec", func := "pub-emendator/laws.FnHalfMatch", spec := "fnHalfMatch", named := ["unicode/utf8.first", "unicode/utf8.acceptRanges"], apart := false, laid := [("unicode/utf8.acceptRanges", laid_unicode_utf8_acceptRanges), ("unicode/utf8.first", laid_unicode_utf8_first)] }
def FnHalfMatchSaid : Prop := fnHalfMatchRow.holds Tryd.pinned (OpenSpec.ofChange fnHalfMatchSpec)

/-- ITS FALSE NEIGHBOUR: 'it returns false'. Refute it at one input. -/
def fnHalfMatchWrong : ChangeSpec := { name := "fnHalfMatch", fn := fun _ => fun
  | [d1, d2] => { results := [.lit (.bool false)], args := [d1, d2] }
  | _ => none }
def FnHalfMatchWrongFalsely : Prop := fnHalfMatchRow.holds Tryd.pinned (OpenSpec.ofChange fnHalfMatchWrong)

/-- 'laws.FnHalfNone': WHATEVER THE INPUT: true; the input reads as it did. -/
def fnHalfNoneSpec : ChangeSpec := { name := "fnHalfNone", fn := fun _ => fun
  | [d1, d2] => { results := [.lit (.bool true)], args := [d1, d2] }
  | _ => none }
def fnHalfNoneRow : OpenClaim := { program := "ytblmeoigjbnmiaadoor", sum := "cc4dc94f11b1139bdb6bbc8e56118567727f50c00cc764b98fd6d38b790785ec", func := "pub-emendator/laws.FnHalfNone", spec := "fnHalfNone", named := ["unicode/utf8.first", "unicode/utf8.acceptRanges"], apart := false, laid := [("unicode/utf8.acceptRanges", laid_unicode_utf8_acceptRanges), ("unicode/utf8.first", laid_unicode_utf8_first)] }
def FnHalfNoneSaid : Prop := fnHalfNoneRow.holds Tryd.pinned (OpenSpec.ofChange fnHalfNoneSpec)

/-- ITS FALSE NEIGHBOUR: 'it returns false'. Refute it at one input. -/
def fnHalfNoneWrong : ChangeSpec := { name := "fnHalfNone", fn := fun _ => fun
  | [d1, d2] => { results := [.lit (.bool false)], args := [d1, d2] }
  | _ => none }
def FnHalfNoneWrongFalsely : Prop := fnHalfNoneRow.holds Tryd.pinned (OpenSpec.ofChange fnHalfNoneWrong)

/-- 'laws.FnEfficiencyKeeps': WHATEVER THE INPUT: true; the input reads as it did. -/
def fnEfficiencyKeepsSpec : ChangeSpec := { name := "fnEfficiencyKeeps", fn := fun _ => fun
  | [d1, d2] => { results := [.lit (.bool true)], args := [d1, d2] }
  | _ => none }
def fnEfficiencyKeepsRow : OpenClaim := { program := "ytblmeoigjbnmiaadoor", sum := "cc4dc94f11b1139bdb6bbc8e56118567727f50c00cc764b98fd6d38b790785ec", func := "pub-emendator/laws.FnEfficiencyKeeps", spec := "fnEfficiencyKeeps", recurses := true, named := ["unicode/utf8.first", "unicode/utf8.acceptRanges"], apart := false, laid := [("unicode/utf8.acceptRanges", laid_unicode_utf8_acceptRanges), ("unicode/utf8.first", laid_unicode_utf8_first)] }
def FnEfficiencyKeepsSaid : Prop := fnEfficiencyKeepsRow.holds Tryd.pinned (OpenSpec.ofChange fnEfficiencyKeepsSpec)

/-- ITS FALSE NEIGHBOUR: 'it returns false'. Refute it at one input. -/
def fnEfficiencyKeepsWrong : ChangeSpec := { name := "fnEfficiencyKeeps", fn := fun _ => fun
  | [d1, d2] => { results := [.lit (.bool false)], args := [d1, d2] }
  | _ => none }
def FnEfficiencyKeepsWrongFalsely : Prop := fnEfficiencyKeepsRow.holds Tryd.pinned (OpenSpec.ofChange fnEfficiencyKeepsWrong)

/-- 'laws.FnEfficiencyFewer': WHATEVER THE INPUT: true; the input reads as it did. -/
def fnEfficiencyFewerSpec : ChangeSpec := { name := "fnEfficiencyFewer", fn := fun _ => fun
  | [d1, d2] => { results := [.lit (.bool true)], args := [d1, d2] }
  | _ => none }
def fnEfficiencyFewerRow : OpenClaim := { program := "ytblmeoigjbnmiaadoor", sum := "cc4dc94f11b1139bdb6bbc8e56118567727f50c00cc764b98fd6d38b790785ec", func := "pub-emendator/laws.FnEfficiencyFewer", spec := "fnEfficiencyFewer", recurses := true, named := ["unicode/utf8.first", "unicode/utf8.acceptRanges"], apart := false, laid := [("unicode/utf8.acceptRanges", laid_unicode_utf8_acceptRanges), ("unicode/utf8.first", laid_unicode_utf8_first)] }
def FnEfficiencyFewerSaid : Prop := fnEfficiencyFewerRow.holds Tryd.pinned (OpenSpec.ofChange fnEfficiencyFewerSpec)

/-- ITS FALSE NEIGHBOUR: 'it returns false'. Refute it at one input. -/
def fnEfficiencyFewerWrong : ChangeSpec := { name := "fnEfficiencyFewer", fn := fun _ => fun
  | [d1, d2] => { results := [.lit (.bool false)], args := [d1, d2] }
  | _ => none }
def FnEfficiencyFewerWrongFalsely : Prop := fnEfficiencyFewerRow.holds Tryd.pinned (OpenSpec.ofChange fnEfficiencyFewerWrong)

/- THE SECOND FORM. 'bulk': how many values and letters a reading holds, each counted each time it is reached (what is shared counts as often as it is met; a slice's spare places count too). A statement '..UptoSaid' is the law's where the arguments, and the package variables that the reading takes, are together of bulk at most 1048576: NARROWER than '..Said'. Prove '..Said' where nothing that the law and all that it calls make is longer than what came in: it says more and counts as full. Else prove '..UptoSaid'. A law counts once. -/
mutual
def uptoBulk {H : Type} : DataW H → Nat
  | .lit (.string bytes) => bytes.length + 1
  | .lit _ => 1
  | .nil => 1
  | .ptr d => uptoBulk d + 1
  | .slice elems spare => uptoBulkAll elems + uptoBulkAll spare + 1
  | .agg parts => uptoBulkAll parts + 1
  | .iface _ d => uptoBulk d + 1
  | .map entries => uptoBulkEntries entries + 1
  | .held _ => 1
def uptoBulkAll {H : Type} : List (DataW H) → Nat
  | [] => 0
  | d :: r => uptoBulk d + uptoBulkAll r
def uptoBulkEntries {H : Type} : List (Lit × DataW H) → Nat
  | [] => 0
  | x :: r => uptoBulkEntry x + uptoBulkEntries r
def uptoBulkEntry {H : Type} : Lit × DataW H → Nat
  | (.string bytes, d) => bytes.length + uptoBulk d + 1
  | (_, d) => uptoBulk d + 1
 end
def uptoSmall : (H : Type) → List (DataW H) → Bool := fun _ ds => decide (uptoBulkAll ds ≤ 1048576)
def OpenSpec.upto (s : _root_.Go.ChangeSpec) : _root_.Go.OpenSpec := { _root_.Go.OpenSpec.ofChange s with cond := some uptoSmall }

/-- 'laws.FnHalfMatch', WHERE WHAT IT READS IS OF BULK AT MOST 1048576: true; the input reads as it did. -/
def fnHalfMatchUptoRow : OpenClaim := { program := "ytblmeoigjbnmiaadoor", sum := "cc4dc94f11b1139bdb6bbc8e56118567727f50c00cc764b98fd6d38b790785ec", func := "pub-emendator/laws.FnHalfMatch", spec := "fnHalfMatch", named := ["unicode/utf8.first", "unicode/utf8.acceptRanges"], apart := false, laid := [("unicode/utf8.acceptRanges", laid_unicode_utf8_acceptRanges), ("unicode/utf8.first", laid_unicode_utf8_first)], narrowed := true }
def FnHalfMatchUptoSaid : Prop := fnHalfMatchUptoRow.holds Tryd.pinned (OpenSpec.upto fnHalfMatchSpec)

/-- 'laws.FnHalfNone', WHERE WHAT IT READS IS OF BULK AT MOST 1048576: true; the input reads as it did. -/
def fnHalfNoneUptoRow : OpenClaim := { program := "ytblmeoigjbnmiaadoor", sum := "cc4dc94f11b1139bdb6bbc8e56118567727f50c00cc764b98fd6d38b790785ec", func := "pub-emendator/laws.FnHalfNone", spec := "fnHalfNone", named := ["unicode/utf8.first", "unicode/utf8.acceptRanges"], apart := false, laid := [("unicode/utf8.acceptRanges", laid_unicode_utf8_acceptRanges), ("unicode/utf8.first", laid_unicode_utf8_first)], narrowed := true }
def FnHalfNoneUptoSaid : Prop := fnHalfNoneUptoRow.holds Tryd.pinned (OpenSpec.upto fnHalfNoneSpec)

/-- 'laws.FnEfficiencyKeeps', WHERE WHAT IT READS IS OF BULK AT MOST 1048576: true; the input reads as it did. -/
def fnEfficiencyKeepsUptoRow : OpenClaim := { program := "ytblmeoigjbnmiaadoor", sum := "cc4dc94f11b1139bdb6bbc8e56118567727f50c00cc764b98fd6d38b790785ec", func := "pub-emendator/laws.FnEfficiencyKeeps", spec := "fnEfficiencyKeeps", recurses := true, named := ["unicode/utf8.first", "unicode/utf8.acceptRanges"], apart := false, laid := [("unicode/utf8.acceptRanges", laid_unicode_utf8_acceptRanges), ("unicode/utf8.first", laid_unicode_utf8_first)], narrowed := true }
def FnEfficiencyKeepsUptoSaid : Prop := fnEfficiencyKeepsUptoRow.holds Tryd.pinned (OpenSpec.upto fnEfficiencyKeepsSpec)

/-- 'laws.FnEfficiencyFewer', WHERE WHAT IT READS IS OF BULK AT MOST 1048576: true; the input reads as it did. -/
def fnEfficiencyFewerUptoRow : OpenClaim := { program := "ytblmeoigjbnmiaadoor", sum := "cc4dc94f11b1139bdb6bbc8e56118567727f50c00cc764b98fd6d38b790785ec", func := "pub-emendator/laws.FnEfficiencyFewer", spec := "fnEfficiencyFewer", recurses := true, named := ["unicode/utf8.first", "unicode/utf8.acceptRanges"], apart := false, laid := [("unicode/utf8.acceptRanges", laid_unicode_utf8_acceptRanges), ("unicode/utf8.first", laid_unicode_utf8_first)], narrowed := true }
def FnEfficiencyFewerUptoSaid : Prop := fnEfficiencyFewerUptoRow.holds Tryd.pinned (OpenSpec.upto fnEfficiencyFewerSpec)

end Rows
end Go.Proofs.YtblmeoigjbnmiaaDoor
