/-
  NARROWER THAN 'FOR EVERY INPUT', by the rows' own cells (each row's printed sentence says how): FnLosslessFew: laid · FnLosslessKeeps: laid · FnLosslessWord: laid · FnMergeAgain: laid · FnMergeForm: laid · FnMergeKeeps: laid · FnMergeLess: laid · FnMergeOrder: laid · FnEfficiencyKeeps: laid · FnEfficiencyFewer: laid · FnSemanticKeeps: laid · FnSemanticFewer: laid · FnSemanticOne: laid.
  DERIVED. THE GIVEN ROWS OF THIS SEAT. 13 by the template 'for every input the law returns true; each argument reads behind the call as it read before'; 0 by the template 'total and deterministic' (their statements: YtaabfadjemmibaaDoorTotals.lean).
  GIVEN WITH THE SEED: the statements are not yours to turn. If you find one false, say at which input.
  Laid BY PROGRAM, IN A SANDBOX (cutbox-rows.mjs): the forced cells as the released guide's own fill.sh prints them over the translation 884b0223536b0471… (all of the seat's roots in one cut). By AI agents, Wed Nov 11 2026. No macro, syntax, notation, axiom, sorry.
-/
import Derived.Test.YtaabfadjemmibaaDoorChecked
import GoSem.PinnedTables
import GoSem.Claim
import GoSem.ClaimJoined
import GoSem.ClaimMapViews
import Derived.JoinedTies
import Derived.KernelRfl
namespace Go.Proofs.YtaabfadjemmibaaDoor
/- THE CELL 'sum', in the pinned program and in every row, IS THE sha256 OF THE DUMP (.gsa) THAT YtaabfadjemmibaaDoorProg.lean LOADS. Nothing in Lean hashes anything: it is a label: what it is worth is what the hold of that sum in a sandbox is worth. -/
noncomputable def Tryd.pinned : Pinned := { name := "ytaabfadjemmibaadoor", sum := "884b0223536b0471c439f540c34d4b6ddb11d129a2127c388302afdf7bd668bf", checked := Tryd.checked }
namespace Rows
def none {H : Type} : Left H := { results := [], args := [] }

/- WHAT THE LISTED PACKAGE-LEVEL VARIABLES READ AS WHEN THE CALL BEGINS. Each datum BY PROGRAM (the guide's laid-datum.mjs) off the statement by which the dump's own 'gosem.cut.vars' lays the variable. In a bare row this is a premise. The card (YtaabfadjemmibaaDoorCards.lean) ties it to the program's text. -/
def laid_unicode_utf8_acceptRanges {H : Type} : DataW H := .agg [.agg [.lit (.int .u8 128), .lit (.int .u8 191)], .agg [.lit (.int .u8 160), .lit (.int .u8 191)], .agg [.lit (.int .u8 128), .lit (.int .u8 159)], .agg [.lit (.int .u8 144), .lit (.int .u8 191)], .agg [.lit (.int .u8 128), .lit (.int .u8 143)], .agg [.lit (.int .u8 0), .lit (.int .u8 0)], .agg [.lit (.int .u8 0), .lit (.int .u8 0)], .agg [.lit (.int .u8 0), .lit (.int .u8 0)], .agg [.lit (.int .u8 0), .lit (.int .u8 0)], .agg [.lit (.int .u8 0), .lit (.int .u8 0)], .agg [.lit (.int .u8 0), .lit (.int .u8 0)], .agg [.lit (.int .u8 0), .lit (.int .u8 0)], .agg [.lit (.int .u8 0), .lit (.int .u8 0)], .agg [.lit (.int .u8 0), .lit (.int .u8 0)], .agg [.lit (.int .u8 0), .lit (.int .u8 0)], .agg [.lit (.int .u8 0), .lit (.int .u8 0)]]
/-- One of Go's own tables, pinned by name: the form's constant. -/
def laid_unicode_utf8_first : DataW Unit := Go.Pinned.utf8First

/-- 'laws.FnLosslessFew': WHATEVER THE INPUT: true; the input reads as it did. -/
def fnLosslessFewSpec : ChangeSpec := { name := "fnLosslessFew", fn := fun _ => fun
  | [d] => { results := [.lit (.bool true)], args := [d] }
  | _ => none }
def fnLosslessFewRow : OpenClaim := { program := "ytaabfadjemmibaadoor", sum := "884b0223536b0471c439f540c34d4b6ddb11d129a2127c388302afdf7bd668bf", func := "pub-emendator/laws.FnLosslessFew", spec := "fnLosslessFew", named := ["unicode/utf8.first", "unicode/utf8.acceptRanges"], apart := false, laid := [("unicode/utf8.acceptRanges", laid_unicode_utf8_acceptRanges), ("unicode/utf8.first", laid_unicode_utf8_first)] }
def FnLosslessFewSaid : Prop := fnLosslessFewRow.holds Tryd.pinned (OpenSpec.ofChange fnLosslessFewSpec)

/-- ITS FALSE NEIGHBOUR: 'it returns false'. Refute it at one input. -/
def fnLosslessFewWrong : ChangeSpec := { name := "fnLosslessFew", fn := fun _ => fun
  | [d] => { results := [.lit (.bool false)], args := [d] }
  | _ => none }
def FnLosslessFewWrongFalsely : Prop := fnLosslessFewRow.holds Tryd.pinned (OpenSpec.ofChange fnLosslessFewWrong)

/-- 'laws.FnLosslessKeeps': WHATEVER THE INPUT: true; the input reads as it did. -/
def fnLosslessKeepsSpec : ChangeSpec := { name := "fnLosslessKeeps", fn := fun _ => fun
  | [d] => { results := [.lit (.bool true)], args := [d] }
  | _ => none }
def fnLosslessKeepsRow : OpenClaim := { program := "ytaabfadjemmibaadoor", sum := "884b0223536b0471c439f540c34d4b6ddb11d129a2127c388302afdf7bd668bf", func := "pub-emendator/laws.FnLosslessKeeps", spec := "fnLosslessKeeps", named := ["unicode/utf8.first", "unicode/utf8.acceptRanges"], apart := false, laid := [("unicode/utf8.acceptRanges", laid_unicode_utf8_acceptRanges), ("unicode/utf8.first", laid_unicode_utf8_first)] }
def FnLosslessKeepsSaid : Prop := fnLosslessKeepsRow.holds Tryd.pinned (OpenSpec.ofChange fnLosslessKeepsSpec)

/-- ITS FALSE NEIGHBOUR: 'it returns false'. Refute it at one input. -/
def fnLosslessKeepsWrong : ChangeSpec := { name := "fnLosslessKeeps", fn := fun _ => fun
  | [d] => { results := [.lit (.bool false)], args := [d] }
  | _ => none }
def FnLosslessKeepsWrongFalsely : Prop := fnLosslessKeepsRow.holds Tryd.pinned (OpenSpec.ofChange fnLosslessKeepsWrong)

/-- 'laws.FnLosslessWord': WHATEVER THE INPUT: true; the input reads as it did. -/
def fnLosslessWordSpec : ChangeSpec := { name := "fnLosslessWord", fn := fun _ => fun
  | [d1, d2, d3, d4] => { results := [.lit (.bool true)], args := [d1, d2, d3, d4] }
  | _ => none }
def fnLosslessWordRow : OpenClaim := { program := "ytaabfadjemmibaadoor", sum := "884b0223536b0471c439f540c34d4b6ddb11d129a2127c388302afdf7bd668bf", func := "pub-emendator/laws.FnLosslessWord", spec := "fnLosslessWord", named := ["unicode/utf8.first", "unicode/utf8.acceptRanges"], apart := false, laid := [("unicode/utf8.acceptRanges", laid_unicode_utf8_acceptRanges), ("unicode/utf8.first", laid_unicode_utf8_first)] }
def FnLosslessWordSaid : Prop := fnLosslessWordRow.holds Tryd.pinned (OpenSpec.ofChange fnLosslessWordSpec)

/-- ITS FALSE NEIGHBOUR: 'it returns false'. Refute it at one input. -/
def fnLosslessWordWrong : ChangeSpec := { name := "fnLosslessWord", fn := fun _ => fun
  | [d1, d2, d3, d4] => { results := [.lit (.bool false)], args := [d1, d2, d3, d4] }
  | _ => none }
def FnLosslessWordWrongFalsely : Prop := fnLosslessWordRow.holds Tryd.pinned (OpenSpec.ofChange fnLosslessWordWrong)

/-- 'laws.FnMergeAgain': WHATEVER THE INPUT: true; the input reads as it did. -/
def fnMergeAgainSpec : ChangeSpec := { name := "fnMergeAgain", fn := fun _ => fun
  | [d] => { results := [.lit (.bool true)], args := [d] }
  | _ => none }
def fnMergeAgainRow : OpenClaim := { program := "ytaabfadjemmibaadoor", sum := "884b0223536b0471c439f540c34d4b6ddb11d129a2127c388302afdf7bd668bf", func := "pub-emendator/laws.FnMergeAgain", spec := "fnMergeAgain", recurses := true, named := ["unicode/utf8.first", "unicode/utf8.acceptRanges"], apart := false, laid := [("unicode/utf8.acceptRanges", laid_unicode_utf8_acceptRanges), ("unicode/utf8.first", laid_unicode_utf8_first)] }
def FnMergeAgainSaid : Prop := fnMergeAgainRow.holds Tryd.pinned (OpenSpec.ofChange fnMergeAgainSpec)

/-- ITS FALSE NEIGHBOUR: 'it returns false'. Refute it at one input. -/
def fnMergeAgainWrong : ChangeSpec := { name := "fnMergeAgain", fn := fun _ => fun
  | [d] => { results := [.lit (.bool false)], args := [d] }
  | _ => none }
def FnMergeAgainWrongFalsely : Prop := fnMergeAgainRow.holds Tryd.pinned (OpenSpec.ofChange fnMergeAgainWrong)

/-- 'laws.FnMergeForm': WHATEVER THE INPUT: true; the input reads as it did. -/
def fnMergeFormSpec : ChangeSpec := { name := "fnMergeForm", fn := fun _ => fun
  | [d] => { results := [.lit (.bool true)], args := [d] }
  | _ => none }
def fnMergeFormRow : OpenClaim := { program := "ytaabfadjemmibaadoor", sum := "884b0223536b0471c439f540c34d4b6ddb11d129a2127c388302afdf7bd668bf", func := "pub-emendator/laws.FnMergeForm", spec := "fnMergeForm", recurses := true, named := ["unicode/utf8.first", "unicode/utf8.acceptRanges"], apart := false, laid := [("unicode/utf8.acceptRanges", laid_unicode_utf8_acceptRanges), ("unicode/utf8.first", laid_unicode_utf8_first)] }
def FnMergeFormSaid : Prop := fnMergeFormRow.holds Tryd.pinned (OpenSpec.ofChange fnMergeFormSpec)

/-- ITS FALSE NEIGHBOUR: 'it returns false'. Refute it at one input. -/
def fnMergeFormWrong : ChangeSpec := { name := "fnMergeForm", fn := fun _ => fun
  | [d] => { results := [.lit (.bool false)], args := [d] }
  | _ => none }
def FnMergeFormWrongFalsely : Prop := fnMergeFormRow.holds Tryd.pinned (OpenSpec.ofChange fnMergeFormWrong)

/-- 'laws.FnMergeKeeps': WHATEVER THE INPUT: true; the input reads as it did. -/
def fnMergeKeepsSpec : ChangeSpec := { name := "fnMergeKeeps", fn := fun _ => fun
  | [d] => { results := [.lit (.bool true)], args := [d] }
  | _ => none }
def fnMergeKeepsRow : OpenClaim := { program := "ytaabfadjemmibaadoor", sum := "884b0223536b0471c439f540c34d4b6ddb11d129a2127c388302afdf7bd668bf", func := "pub-emendator/laws.FnMergeKeeps", spec := "fnMergeKeeps", recurses := true, named := ["unicode/utf8.first", "unicode/utf8.acceptRanges"], apart := false, laid := [("unicode/utf8.acceptRanges", laid_unicode_utf8_acceptRanges), ("unicode/utf8.first", laid_unicode_utf8_first)] }
def FnMergeKeepsSaid : Prop := fnMergeKeepsRow.holds Tryd.pinned (OpenSpec.ofChange fnMergeKeepsSpec)

/-- ITS FALSE NEIGHBOUR: 'it returns false'. Refute it at one input. -/
def fnMergeKeepsWrong : ChangeSpec := { name := "fnMergeKeeps", fn := fun _ => fun
  | [d] => { results := [.lit (.bool false)], args := [d] }
  | _ => none }
def FnMergeKeepsWrongFalsely : Prop := fnMergeKeepsRow.holds Tryd.pinned (OpenSpec.ofChange fnMergeKeepsWrong)

/-- 'laws.FnMergeLess': WHATEVER THE INPUT: true; the input reads as it did. -/
def fnMergeLessSpec : ChangeSpec := { name := "fnMergeLess", fn := fun _ => fun
  | [d] => { results := [.lit (.bool true)], args := [d] }
  | _ => none }
def fnMergeLessRow : OpenClaim := { program := "ytaabfadjemmibaadoor", sum := "884b0223536b0471c439f540c34d4b6ddb11d129a2127c388302afdf7bd668bf", func := "pub-emendator/laws.FnMergeLess", spec := "fnMergeLess", recurses := true, named := ["unicode/utf8.first", "unicode/utf8.acceptRanges"], apart := false, laid := [("unicode/utf8.acceptRanges", laid_unicode_utf8_acceptRanges), ("unicode/utf8.first", laid_unicode_utf8_first)] }
def FnMergeLessSaid : Prop := fnMergeLessRow.holds Tryd.pinned (OpenSpec.ofChange fnMergeLessSpec)

/-- ITS FALSE NEIGHBOUR: 'it returns false'. Refute it at one input. -/
def fnMergeLessWrong : ChangeSpec := { name := "fnMergeLess", fn := fun _ => fun
  | [d] => { results := [.lit (.bool false)], args := [d] }
  | _ => none }
def FnMergeLessWrongFalsely : Prop := fnMergeLessRow.holds Tryd.pinned (OpenSpec.ofChange fnMergeLessWrong)

/-- 'laws.FnMergeOrder': WHATEVER THE INPUT: true; the input reads as it did. -/
def fnMergeOrderSpec : ChangeSpec := { name := "fnMergeOrder", fn := fun _ => fun
  | [d] => { results := [.lit (.bool true)], args := [d] }
  | _ => none }
def fnMergeOrderRow : OpenClaim := { program := "ytaabfadjemmibaadoor", sum := "884b0223536b0471c439f540c34d4b6ddb11d129a2127c388302afdf7bd668bf", func := "pub-emendator/laws.FnMergeOrder", spec := "fnMergeOrder", recurses := true, named := ["unicode/utf8.first", "unicode/utf8.acceptRanges"], apart := false, laid := [("unicode/utf8.acceptRanges", laid_unicode_utf8_acceptRanges), ("unicode/utf8.first", laid_unicode_utf8_first)] }
def FnMergeOrderSaid : Prop := fnMergeOrderRow.holds Tryd.pinned (OpenSpec.ofChange fnMergeOrderSpec)

/-- ITS FALSE NEIGHBOUR: 'it returns false'. Refute it at one input. -/
def fnMergeOrderWrong : ChangeSpec := { name := "fnMergeOrder", fn := fun _ => fun
  | [d] => { results := [.lit (.bool false)], args := [d] }
  | _ => none }
def FnMergeOrderWrongFalsely : Prop := fnMergeOrderRow.holds Tryd.pinned (OpenSpec.ofChange fnMergeOrderWrong)

/-- 'laws.FnEfficiencyKeeps': WHATEVER THE INPUT: true; the input reads as it did. -/
def fnEfficiencyKeepsSpec : ChangeSpec := { name := "fnEfficiencyKeeps", fn := fun _ => fun
  | [d1, d2] => { results := [.lit (.bool true)], args := [d1, d2] }
  | _ => none }
def fnEfficiencyKeepsRow : OpenClaim := { program := "ytaabfadjemmibaadoor", sum := "884b0223536b0471c439f540c34d4b6ddb11d129a2127c388302afdf7bd668bf", func := "pub-emendator/laws.FnEfficiencyKeeps", spec := "fnEfficiencyKeeps", recurses := true, named := ["unicode/utf8.first", "unicode/utf8.acceptRanges"], apart := false, laid := [("unicode/utf8.acceptRanges", laid_unicode_utf8_acceptRanges), ("unicode/utf8.first", laid_unicode_utf8_first)] }
def FnEfficiencyKeepsSaid : Prop := fnEfficiencyKeepsRow.holds Tryd.pinned (OpenSpec.ofChange fnEfficiencyKeepsSpec)

/-- ITS FALSE NEIGHBOUR: 'it returns false'. Refute it at one input. -/
def fnEfficiencyKeepsWrong : ChangeSpec := { name := "fnEfficiencyKeeps", fn := fun _ => fun
  | [d1, d2] => { results := [.lit (.bool false)], args := [d1, d2] }
  | _ => none }
def FnEfficiencyKeepsWrongFalsely : Prop := fnEfficiencyKeepsRow.holds Tryd.pinned (OpenSpec.ofChange fnEfficiencyKeepsWrong)

/-- 'laws.FnEfficiencyFewer': WHATEVER THE INPUT: true; the input reads as it did. -/
def fnEfficiencyFewerSpec : ChangeSpec := { name := "fnEfficiencyFewer", fn := fun _ => fun
  | [d1, d2] => { results := [.lit (.bool true)], args := [d1, d2] }
  | _ => none }
def fnEfficiencyFewerRow : OpenClaim := { program := "ytaabfadjemmibaadoor", sum := "884b0223536b0471c439f540c34d4b6ddb11d129a2127c388302afdf7bd668bf", func := "pub-emendator/laws.FnEfficiencyFewer", spec := "fnEfficiencyFewer", recurses := true, named := ["unicode/utf8.first", "unicode/utf8.acceptRanges"], apart := false, laid := [("unicode/utf8.acceptRanges", laid_unicode_utf8_acceptRanges), ("unicode/utf8.first", laid_unicode_utf8_first)] }
def FnEfficiencyFewerSaid : Prop := fnEfficiencyFewerRow.holds Tryd.pinned (OpenSpec.ofChange fnEfficiencyFewerSpec)

/-- ITS FALSE NEIGHBOUR: 'it returns false'. Refute it at one input. -/
def fnEfficiencyFewerWrong : ChangeSpec := { name := "fnEfficiencyFewer", fn := fun _ => fun
  | [d1, d2] => { results := [.lit (.bool false)], args := [d1, d2] }
  | _ => none }
def FnEfficiencyFewerWrongFalsely : Prop := fnEfficiencyFewerRow.holds Tryd.pinned (OpenSpec.ofChange fnEfficiencyFewerWrong)

/-- 'laws.FnSemanticKeeps': WHATEVER THE INPUT: true; the input reads as it did. -/
def fnSemanticKeepsSpec : ChangeSpec := { name := "fnSemanticKeeps", fn := fun _ => fun
  | [d] => { results := [.lit (.bool true)], args := [d] }
  | _ => none }
def fnSemanticKeepsRow : OpenClaim := { program := "ytaabfadjemmibaadoor", sum := "884b0223536b0471c439f540c34d4b6ddb11d129a2127c388302afdf7bd668bf", func := "pub-emendator/laws.FnSemanticKeeps", spec := "fnSemanticKeeps", inPlace := ["math.archMax", "math.Float64bits", "math.Float64frombits", "math.archMin"], recurses := true, named := ["unicode/utf8.first", "unicode/utf8.acceptRanges"], apart := false, laid := [("unicode/utf8.acceptRanges", laid_unicode_utf8_acceptRanges), ("unicode/utf8.first", laid_unicode_utf8_first)] }
def FnSemanticKeepsSaid : Prop := fnSemanticKeepsRow.holds Tryd.pinned (OpenSpec.ofChange fnSemanticKeepsSpec)

/-- ITS FALSE NEIGHBOUR: 'it returns false'. Refute it at one input. -/
def fnSemanticKeepsWrong : ChangeSpec := { name := "fnSemanticKeeps", fn := fun _ => fun
  | [d] => { results := [.lit (.bool false)], args := [d] }
  | _ => none }
def FnSemanticKeepsWrongFalsely : Prop := fnSemanticKeepsRow.holds Tryd.pinned (OpenSpec.ofChange fnSemanticKeepsWrong)

/-- 'laws.FnSemanticFewer': WHATEVER THE INPUT: true; the input reads as it did. -/
def fnSemanticFewerSpec : ChangeSpec := { name := "fnSemanticFewer", fn := fun _ => fun
  | [d] => { results := [.lit (.bool true)], args := [d] }
  | _ => none }
def fnSemanticFewerRow : OpenClaim := { program := "ytaabfadjemmibaadoor", sum := "884b0223536b0471c439f540c34d4b6ddb11d129a2127c388302afdf7bd668bf", func := "pub-emendator/laws.FnSemanticFewer", spec := "fnSemanticFewer", inPlace := ["math.archMax", "math.Float64bits", "math.Float64frombits", "math.archMin"], recurses := true, named := ["unicode/utf8.first", "unicode/utf8.acceptRanges"], apart := false, laid := [("unicode/utf8.acceptRanges", laid_unicode_utf8_acceptRanges), ("unicode/utf8.first", laid_unicode_utf8_first)] }
def FnSemanticFewerSaid : Prop := fnSemanticFewerRow.holds Tryd.pinned (OpenSpec.ofChange fnSemanticFewerSpec)

/-- ITS FALSE NEIGHBOUR: 'it returns false'. Refute it at one input. -/
def fnSemanticFewerWrong : ChangeSpec := { name := "fnSemanticFewer", fn := fun _ => fun
  | [d] => { results := [.lit (.bool false)], args := [d] }
  | _ => none }
def FnSemanticFewerWrongFalsely : Prop := fnSemanticFewerRow.holds Tryd.pinned (OpenSpec.ofChange fnSemanticFewerWrong)

/-- 'laws.FnSemanticOne': WHATEVER THE INPUT: true; the input reads as it did. -/
def fnSemanticOneSpec : ChangeSpec := { name := "fnSemanticOne", fn := fun _ => fun
  | [d1, d2, d3, d4] => { results := [.lit (.bool true)], args := [d1, d2, d3, d4] }
  | _ => none }
def fnSemanticOneRow : OpenClaim := { program := "ytaabfadjemmibaadoor", sum := "884b0223536b0471c439f540c34d4b6ddb11d129a2127c388302afdf7bd668bf", func := "pub-emendator/laws.FnSemanticOne", spec := "fnSemanticOne", inPlace := ["math.archMax", "math.Float64bits", "math.Float64frombits", "math.archMin"], recurses := true, named := ["unicode/utf8.first", "unicode/utf8.acceptRanges"], apart := false, laid := [("unicode/utf8.acceptRanges", laid_unicode_utf8_acceptRanges), ("unicode/utf8.first", laid_unicode_utf8_first)] }
def FnSemanticOneSaid : Prop := fnSemanticOneRow.holds Tryd.pinned (OpenSpec.ofChange fnSemanticOneSpec)

/-- ITS FALSE NEIGHBOUR: 'it returns false'. Refute it at one input. -/
def fnSemanticOneWrong : ChangeSpec := { name := "fnSemanticOne", fn := fun _ => fun
  | [d1, d2, d3, d4] => { results := [.lit (.bool false)], args := [d1, d2, d3, d4] }
  | _ => none }
def FnSemanticOneWrongFalsely : Prop := fnSemanticOneRow.holds Tryd.pinned (OpenSpec.ofChange fnSemanticOneWrong)

/- THE SECOND FORM. 'bulk': how many values and letters a reading holds, each counted each time it is reached (what is shared counts as often as it is met; a slice's spare places count too). A statement '..UptoSaid' is the law's where the arguments, and the package variables that the reading takes, are together of bulk at most 1048576: NARROWER than '..Said'. Prove '..Said' where nothing that the law and all that it calls make is longer than what came in: it says more and counts as full. Else prove '..UptoSaid'. A law counts once. -/
mutual
def uptoBulk {H : Type} : DataW H → Nat
  | .lit (.string bytes) => bytes.length + 1
  | .lit _ => 1
  | .nil => 1
  | .ptr d => uptoBulk d + 1
  | .slice elems spare => uptoBulkAll elems + uptoBulkAll spare + 1
  | .agg parts => uptoBulkAll parts + 1
  | .iface _ d => uptoBulk d + 1
  | .map entries => uptoBulkEntries entries + 1
  | .held _ => 1
def uptoBulkAll {H : Type} : List (DataW H) → Nat
  | [] => 0
  | d :: r => uptoBulk d + uptoBulkAll r
def uptoBulkEntries {H : Type} : List (Lit × DataW H) → Nat
  | [] => 0
  | x :: r => uptoBulkEntry x + uptoBulkEntries r
def uptoBulkEntry {H : Type} : Lit × DataW H → Nat
  | (.string bytes, d) => bytes.length + uptoBulk d + 1
  | (_, d) => uptoBulk d + 1
 end
def uptoSmall : (H : Type) → List (DataW H) → Bool := fun _ ds => decide (uptoBulkAll ds ≤ 1048576)
def OpenSpec.upto (s : _root_.Go.ChangeSpec) : _root_.Go.OpenSpec := { _root_.Go.OpenSpec.ofChange s with cond := some uptoSmall }

/-- 'laws.FnLosslessFew', WHERE WHAT IT READS IS OF BULK AT MOST 1048576: true; the input reads as it did. -/
def fnLosslessFewUptoRow : OpenClaim := { program := "ytaabfadjemmibaadoor", sum := "884b0223536b0471c439f540c34d4b6ddb11d129a2127c388302afdf7bd668bf", func := "pub-emendator/laws.FnLosslessFew", spec := "fnLosslessFew", named := ["unicode/utf8.first", "unicode/utf8.acceptRanges"], apart := false, laid := [("unicode/utf8.acceptRanges", laid_unicode_utf8_acceptRanges), ("unicode/utf8.first", laid_unicode_utf8_first)], narrowed := true }
def FnLosslessFewUptoSaid : Prop := fnLosslessFewUptoRow.holds Tryd.pinned (OpenSpec.upto fnLosslessFewSpec)

/-- 'laws.FnLosslessKeeps', WHERE WHAT IT READS IS OF BULK AT MOST 1048576: true; the input reads as it did. -/
def fnLosslessKeepsUptoRow : OpenClaim := { program := "ytaabfadjemmibaadoor", sum := "884b0223536b0471c439f540c34d4b6ddb11d129a2127c388302afdf7bd668bf", func := "pub-emendator/laws.FnLosslessKeeps", spec := "fnLosslessKeeps", named := ["unicode/utf8.first", "unicode/utf8.acceptRanges"], apart := false, laid := [("unicode/utf8.acceptRanges", laid_unicode_utf8_acceptRanges), ("unicode/utf8.first", laid_unicode_utf8_first)], narrowed := true }
def FnLosslessKeepsUptoSaid : Prop := fnLosslessKeepsUptoRow.holds Tryd.pinned (OpenSpec.upto fnLosslessKeepsSpec)

/-- 'laws.FnLosslessWord', WHERE WHAT IT READS IS OF BULK AT MOST 1048576: true; the input reads as it did. -/
def fnLosslessWordUptoRow : OpenClaim := { program := "ytaabfadjemmibaadoor", sum := "884b0223536b0471c439f540c34d4b6ddb11d129a2127c388302afdf7bd668bf", func := "pub-emendator/laws.FnLosslessWord", spec := "fnLosslessWord", named := ["unicode/utf8.first", "unicode/utf8.acceptRanges"], apart := false, laid := [("unicode/utf8.acceptRanges", laid_unicode_utf8_acceptRanges), ("unicode/utf8.first", laid_unicode_utf8_first)], narrowed := true }
def FnLosslessWordUptoSaid : Prop := fnLosslessWordUptoRow.holds Tryd.pinned (OpenSpec.upto fnLosslessWordSpec)

/-- 'laws.FnMergeAgain', WHERE WHAT IT READS IS OF BULK AT MOST 1048576: true; the input reads as it did. -/
def fnMergeAgainUptoRow : OpenClaim := { program := "ytaabfadjemmibaadoor", sum := "884b0223536b0471c439f540c34d4b6ddb11d129a2127c388302afdf7bd668bf", func := "pub-emendator/laws.FnMergeAgain", spec := "fnMergeAgain", recurses := true, named := ["unicode/utf8.first", "unicode/utf8.acceptRanges"], apart := false, laid := [("unicode/utf8.acceptRanges", laid_unicode_utf8_acceptRanges), ("unicode/utf8.first", laid_unicode_utf8_first)], narrowed := true }
def FnMergeAgainUptoSaid : Prop := fnMergeAgainUptoRow.holds Tryd.pinned (OpenSpec.upto fnMergeAgainSpec)

/-- 'laws.FnMergeForm', WHERE WHAT IT READS IS OF BULK AT MOST 1048576: true; the input reads as it did. -/
def fnMergeFormUptoRow : OpenClaim := { program := "ytaabfadjemmibaadoor", sum := "884b0223536b0471c439f540c34d4b6ddb11d129a2127c388302afdf7bd668bf", func := "pub-emendator/laws.FnMergeForm", spec := "fnMergeForm", recurses := true, named := ["unicode/utf8.first", "unicode/utf8.acceptRanges"], apart := false, laid := [("unicode/utf8.acceptRanges", laid_unicode_utf8_acceptRanges), ("unicode/utf8.first", laid_unicode_utf8_first)], narrowed := true }
def FnMergeFormUptoSaid : Prop := fnMergeFormUptoRow.holds Tryd.pinned (OpenSpec.upto fnMergeFormSpec)

/-- 'laws.FnMergeKeeps', WHERE WHAT IT READS IS OF BULK AT MOST 1048576: true; the input reads as it did. -/
def fnMergeKeepsUptoRow : OpenClaim := { program := "ytaabfadjemmibaadoor", sum := "884b0223536b0471c439f540c34d4b6ddb11d129a2127c388302afdf7bd668bf", func := "pub-emendator/laws.FnMergeKeeps", spec := "fnMergeKeeps", recurses := true, named := ["unicode/utf8.first", "unicode/utf8.acceptRanges"], apart := false, laid := [("unicode/utf8.acceptRanges", laid_unicode_utf8_acceptRanges), ("unicode/utf8.first", laid_unicode_utf8_first)], narrowed := true }
def FnMergeKeepsUptoSaid : Prop := fnMergeKeepsUptoRow.holds Tryd.pinned (OpenSpec.upto fnMergeKeepsSpec)

/-- 'laws.FnMergeLess', WHERE WHAT IT READS IS OF BULK AT MOST 1048576: true; the input reads as it did. -/
def fnMergeLessUptoRow : OpenClaim := { program := "ytaabfadjemmibaadoor", sum := "884b0223536b0471c439f540c34d4b6ddb11d129a2127c388302afdf7bd668bf", func := "pub-emendator/laws.FnMergeLess", spec := "fnMergeLess", recurses := true, named := ["unicode/utf8.first", "unicode/utf8.acceptRanges"], apart := false, laid := [("unicode/utf8.acceptRanges", laid_unicode_utf8_acceptRanges), ("unicode/utf8.first", laid_unicode_utf8_first)], narrowed := true }
def FnMergeLessUptoSaid : Prop := fnMergeLessUptoRow.holds Tryd.pinned (OpenSpec.upto fnMergeLessSpec)

/-- 'laws.FnMergeOrder', WHERE WHAT IT READS IS OF BULK AT MOST 1048576: true; the input reads as it did. -/
def fnMergeOrderUptoRow : OpenClaim := { program := "ytaabfadjemmibaadoor", sum := "884b0223536b0471c439f540c34d4b6ddb11d129a2127c388302afdf7bd668bf", func := "pub-emendator/laws.FnMergeOrder", spec := "fnMergeOrder", recurses := true, named := ["unicode/utf8.first", "unicode/utf8.acceptRanges"], apart := false, laid := [("unicode/utf8.acceptRanges", laid_unicode_utf8_acceptRanges), ("unicode/utf8.first", laid_unicode_utf8_first)], narrowed := true }
def FnMergeOrderUptoSaid : Prop := fnMergeOrderUptoRow.holds Tryd.pinned (OpenSpec.upto fnMergeOrderSpec)

/-- 'laws.FnEfficiencyKeeps', WHERE WHAT IT READS IS OF BULK AT MOST 1048576: true; the input reads as it did. -/
def fnEfficiencyKeepsUptoRow : OpenClaim := { program := "ytaabfadjemmibaadoor", sum := "884b0223536b0471c439f540c34d4b6ddb11d129a2127c388302afdf7bd668bf", func := "pub-emendator/laws.FnEfficiencyKeeps", spec := "fnEfficiencyKeeps", recurses := true, named := ["unicode/utf8.first", "unicode/utf8.acceptRanges"], apart := false, laid := [("unicode/utf8.acceptRanges", laid_unicode_utf8_acceptRanges), ("unicode/utf8.first", laid_unicode_utf8_first)], narrowed := true }
def FnEfficiencyKeepsUptoSaid : Prop := fnEfficiencyKeepsUptoRow.holds Tryd.pinned (OpenSpec.upto fnEfficiencyKeepsSpec)

/-- 'laws.FnEfficiencyFewer', WHERE WHAT IT READS IS OF BULK AT MOST 1048576: true; the input reads as it did. -/
def fnEfficiencyFewerUptoRow : OpenClaim := { program := "ytaabfadjemmibaadoor", sum := "884b0223536b0471c439f540c34d4b6ddb11d129a2127c388302afdf7bd668bf", func := "pub-emendator/laws.FnEfficiencyFewer", spec := "fnEfficiencyFewer", recurses := true, named := ["unicode/utf8.first", "unicode/utf8.acceptRanges"], apart := false, laid := [("unicode/utf8.acceptRanges", laid_unicode_utf8_acceptRanges), ("unicode/utf8.first", laid_unicode_utf8_first)], narrowed := true }
def FnEfficiencyFewerUptoSaid : Prop := fnEfficiencyFewerUptoRow.holds Tryd.pinned (OpenSpec.upto fnEfficiencyFewerSpec)

/-- 'laws.FnSemanticKeeps', WHERE WHAT IT READS IS OF BULK AT MOST 1048576: true; the input reads as it did. -/
def fnSemanticKeepsUptoRow : OpenClaim := { program := "ytaabfadjemmibaadoor", sum := "884b0223536b0471c439f540c34d4b6ddb11d129a2127c388302afdf7bd668bf", func := "pub-emendator/laws.FnSemanticKeeps", spec := "fnSemanticKeeps", inPlace := ["math.archMax", "math.Float64bits", "math.Float64frombits", "math.archMin"], recurses := true, named := ["unicode/utf8.first", "unicode/utf8.acceptRanges"], apart := false, laid := [("unicode/utf8.acceptRanges", laid_unicode_utf8_acceptRanges), ("unicode/utf8.first", laid_unicode_utf8_first)], narrowed := true }
def FnSemanticKeepsUptoSaid : Prop := fnSemanticKeepsUptoRow.holds Tryd.pinned (OpenSpec.upto fnSemanticKeepsSpec)

/-- 'laws.FnSemanticFewer', WHERE WHAT IT READS IS OF BULK AT MOST 1048576: true; the input reads as it did. -/
def fnSemanticFewerUptoRow : OpenClaim := { program := "ytaabfadjemmibaadoor", sum := "884b0223536b0471c439f540c34d4b6ddb11d129a2127c388302afdf7bd668bf", func := "pub-emendator/laws.FnSemanticFewer", spec := "fnSemanticFewer", inPlace := ["math.archMax", "math.Float64bits", "math.Float64frombits", "math.archMin"], recurses := true, named := ["unicode/utf8.first", "unicode/utf8.acceptRanges"], apart := false, laid := [("unicode/utf8.acceptRanges", laid_unicode_utf8_acceptRanges), ("unicode/utf8.first", laid_unicode_utf8_first)], narrowed := true }
def FnSemanticFewerUptoSaid : Prop := fnSemanticFewerUptoRow.holds Tryd.pinned (OpenSpec.upto fnSemanticFewerSpec)

/-- 'laws.FnSemanticOne', WHERE WHAT IT READS IS OF BULK AT MOST 1048576: true; the input reads as it did. -/
def fnSemanticOneUptoRow : OpenClaim := { program := "ytaabfadjemmibaadoor", sum := "884b0223536b0471c439f540c34d4b6ddb11d129a2127c388302afdf7bd668bf", func := "pub-emendator/laws.FnSemanticOne", spec := "fnSemanticOne", inPlace := ["math.archMax", "math.Float64bits", "math.Float64frombits", "math.archMin"], recurses := true, named := ["unicode/utf8.first", "unicode/utf8.acceptRanges"], apart := false, laid := [("unicode/utf8.acceptRanges", laid_unicode_utf8_acceptRanges), ("unicode/utf8.first", laid_unicode_utf8_first)], narrowed := true }
def FnSemanticOneUptoSaid : Prop := fnSemanticOneUptoRow.holds Tryd.pinned (OpenSpec.upto fnSemanticOneSpec)

end Rows
end Go.Proofs.YtaabfadjemmibaaDoor
