/-
  NARROWER THAN 'FOR EVERY INPUT', by the rows' own cells (each row's printed sentence says how): FnMain: laid · FnMainBack: laid · FnMainLeast: laid · FnMainMerged: laid · FnMainSame: laid · FnMainWithin: laid · FnMainFast: laid · FnMainRunes: laid · FnBisect: laid · FnLinesBack: laid · FnMainDistance: laid · FnXIndexMain: laid.
  DERIVED. THE GIVEN ROWS OF THIS SEAT. 12 by the template 'for every input the law returns true; each argument reads behind the call as it read before'; 0 by the template 'total and deterministic' (their statements: YtmlfecgppnffgaaDoorTotals.lean).
  GIVEN WITH THE SEED: the statements are not yours to turn. If you find one false, say at which input.
  Laid BY PROGRAM, IN A SANDBOX (cutbox-rows.mjs): the forced cells as the released guide's own fill.sh prints them over the translation aa412a008a47bbbb… (all of the seat's roots in one cut). By AI agents, Wed Nov 11 2026. No macro, syntax, notation, axiom, sorry.
-/
import Derived.Test.YtmlfecgppnffgaaDoorChecked
import GoSem.PinnedTables
import GoSem.Claim
import GoSem.ClaimJoined
import GoSem.ClaimMapViews
import Derived.JoinedTies
import Derived.KernelRfl
namespace Go.Proofs.YtmlfecgppnffgaaDoor
/- THE CELL 'sum', in the pinned program and in every row, IS THE sha256 OF THE DUMP (.gsa) THAT YtmlfecgppnffgaaDoorProg.lean LOADS. Nothing in Lean hashes anything: it is a label: what it is worth is what the hold of that sum in a sandbox is worth. -/
noncomputable def Tryd.pinned : Pinned := { name := "ytmlfecgppnffgaadoor", sum := "aa412a008a47bbbb75dbe7d9e8deb2ef0f96e6c8ad7abae0de1c21914bfd1781", checked := Tryd.checked }
namespace Rows
def none {H : Type} : Left H := { results := [], args := [] }

/- WHAT THE LISTED PACKAGE-LEVEL VARIABLES READ AS WHEN THE CALL BEGINS. Each datum BY PROGRAM (the guide's laid-datum.mjs) off the statement by which the dump's own 'gosem.cut.vars' lays the variable. In a bare row this is a premise. The card (YtmlfecgppnffgaaDoorCards.lean) ties it to the program's text. -/
def laid_unicode_utf8_acceptRanges {H : Type} : DataW H := .agg [.agg [.lit (.int .u8 128), .lit (.int .u8 191)], .agg [.lit (.int .u8 160), .lit (.int .u8 191)], .agg [.lit (.int .u8 128), .lit (.int .u8 159)], .agg [.lit (.int .u8 144), .lit (.int .u8 191)], .agg [.lit (.int .u8 128), .lit (.int .u8 143)], .agg [.lit (.int .u8 0), .lit (.int .u8 0)], .agg [.lit (.int .u8 0), .lit (.int .u8 0)], .agg [.lit (.int .u8 0), .lit (.int .u8 0)], .agg [.lit (.int .u8 0), .lit (.int .u8 0)], .agg [.lit (.int .u8 0), .lit (.int .u8 0)], .agg [.lit (.int .u8 0), .lit (.int .u8 0)], .agg [.lit (.int .u8 0), .lit (.int .u8 0)], .agg [.lit (.int .u8 0), .lit (.int .u8 0)], .agg [.lit (.int .u8 0), .lit (.int .u8 0)], .agg [.lit (.int .u8 0), .lit (.int .u8 0)], .agg [.lit (.int .u8 0), .lit (.int .u8 0)]]
/-- One of Go's own tables, pinned by name: the form's constant. -/
def laid_unicode_utf8_first : DataW Unit := Go.Pinned.utf8First

/-- 'laws.FnMain': WHATEVER THE INPUT: true; the input reads as it did. -/
def fnMainSpec : ChangeSpec := { name := "fnMain", fn := fun _ => fun
  | [d1, d2, d3] => { results := [.lit (.bool true)], args := [d1, d2, d3] }
  | _ => none }
def fnMainRow : OpenClaim := { program := "ytmlfecgppnffgaadoor", sum := "aa412a008a47bbbb75dbe7d9e8deb2ef0f96e6c8ad7abae0de1c21914bfd1781", func := "pub-emendator/laws.FnMain", spec := "fnMain", inPlace := ["math.archMax", "math.Float64bits", "math.Float64frombits", "math.archMin"], recurses := true, named := ["unicode/utf8.first", "unicode/utf8.acceptRanges"], apart := false, laid := [("unicode/utf8.acceptRanges", laid_unicode_utf8_acceptRanges), ("unicode/utf8.first", laid_unicode_utf8_first)] }
def FnMainSaid : Prop := fnMainRow.holds Tryd.pinned (OpenSpec.ofChange fnMainSpec)

/-- ITS FALSE NEIGHBOUR: 'it returns false'. Refute it at one input. -/
def fnMainWrong : ChangeSpec := { name := "fnMain", fn := fun _ => fun
  | [d1, d2, d3] => { results := [.lit (.bool false)], args := [d1, d2, d3] }
  | _ => none }
def FnMainWrongFalsely : Prop := fnMainRow.holds Tryd.pinned (OpenSpec.ofChange fnMainWrong)

/-- 'laws.FnMainBack': WHATEVER THE INPUT: true; the input reads as it did. -/
def fnMainBackSpec : ChangeSpec := { name := "fnMainBack", fn := fun _ => fun
  | [d1, d2] => { results := [.lit (.bool true)], args := [d1, d2] }
  | _ => none }
def fnMainBackRow : OpenClaim := { program := "ytmlfecgppnffgaadoor", sum := "aa412a008a47bbbb75dbe7d9e8deb2ef0f96e6c8ad7abae0de1c21914bfd1781", func := "pub-emendator/laws.FnMainBack", spec := "fnMainBack", inPlace := ["math.archMax", "math.Float64bits", "math.Float64frombits", "math.archMin"], recurses := true, named := ["unicode/utf8.first", "unicode/utf8.acceptRanges"], apart := false, laid := [("unicode/utf8.acceptRanges", laid_unicode_utf8_acceptRanges), ("unicode/utf8.first", laid_unicode_utf8_first)] }
def FnMainBackSaid : Prop := fnMainBackRow.holds Tryd.pinned (OpenSpec.ofChange fnMainBackSpec)

/-- ITS FALSE NEIGHBOUR: 'it returns false'. Refute it at one input. -/
def fnMainBackWrong : ChangeSpec := { name := "fnMainBack", fn := fun _ => fun
  | [d1, d2] => { results := [.lit (.bool false)], args := [d1, d2] }
  | _ => none }
def FnMainBackWrongFalsely : Prop := fnMainBackRow.holds Tryd.pinned (OpenSpec.ofChange fnMainBackWrong)

/-- 'laws.FnMainLeast': WHATEVER THE INPUT: true; the input reads as it did. -/
def fnMainLeastSpec : ChangeSpec := { name := "fnMainLeast", fn := fun _ => fun
  | [d1, d2] => { results := [.lit (.bool true)], args := [d1, d2] }
  | _ => none }
def fnMainLeastRow : OpenClaim := { program := "ytmlfecgppnffgaadoor", sum := "aa412a008a47bbbb75dbe7d9e8deb2ef0f96e6c8ad7abae0de1c21914bfd1781", func := "pub-emendator/laws.FnMainLeast", spec := "fnMainLeast", inPlace := ["math.archMax", "math.Float64bits", "math.Float64frombits", "math.archMin"], recurses := true, named := ["unicode/utf8.first", "unicode/utf8.acceptRanges"], apart := false, laid := [("unicode/utf8.acceptRanges", laid_unicode_utf8_acceptRanges), ("unicode/utf8.first", laid_unicode_utf8_first)] }
def FnMainLeastSaid : Prop := fnMainLeastRow.holds Tryd.pinned (OpenSpec.ofChange fnMainLeastSpec)

/-- ITS FALSE NEIGHBOUR: 'it returns false'. Refute it at one input. -/
def fnMainLeastWrong : ChangeSpec := { name := "fnMainLeast", fn := fun _ => fun
  | [d1, d2] => { results := [.lit (.bool false)], args := [d1, d2] }
  | _ => none }
def FnMainLeastWrongFalsely : Prop := fnMainLeastRow.holds Tryd.pinned (OpenSpec.ofChange fnMainLeastWrong)

/-- 'laws.FnMainMerged': WHATEVER THE INPUT: true; the input reads as it did. -/
def fnMainMergedSpec : ChangeSpec := { name := "fnMainMerged", fn := fun _ => fun
  | [d1, d2] => { results := [.lit (.bool true)], args := [d1, d2] }
  | _ => none }
def fnMainMergedRow : OpenClaim := { program := "ytmlfecgppnffgaadoor", sum := "aa412a008a47bbbb75dbe7d9e8deb2ef0f96e6c8ad7abae0de1c21914bfd1781", func := "pub-emendator/laws.FnMainMerged", spec := "fnMainMerged", inPlace := ["math.archMax", "math.Float64bits", "math.Float64frombits", "math.archMin"], recurses := true, named := ["unicode/utf8.first", "unicode/utf8.acceptRanges"], apart := false, laid := [("unicode/utf8.acceptRanges", laid_unicode_utf8_acceptRanges), ("unicode/utf8.first", laid_unicode_utf8_first)] }
def FnMainMergedSaid : Prop := fnMainMergedRow.holds Tryd.pinned (OpenSpec.ofChange fnMainMergedSpec)

/-- ITS FALSE NEIGHBOUR: 'it returns false'. Refute it at one input. -/
def fnMainMergedWrong : ChangeSpec := { name := "fnMainMerged", fn := fun _ => fun
  | [d1, d2] => { results := [.lit (.bool false)], args := [d1, d2] }
  | _ => none }
def FnMainMergedWrongFalsely : Prop := fnMainMergedRow.holds Tryd.pinned (OpenSpec.ofChange fnMainMergedWrong)

/-- 'laws.FnMainSame': WHATEVER THE INPUT: true; the input reads as it did. -/
def fnMainSameSpec : ChangeSpec := { name := "fnMainSame", fn := fun _ => fun
  | [d1, d2] => { results := [.lit (.bool true)], args := [d1, d2] }
  | _ => none }
def fnMainSameRow : OpenClaim := { program := "ytmlfecgppnffgaadoor", sum := "aa412a008a47bbbb75dbe7d9e8deb2ef0f96e6c8ad7abae0de1c21914bfd1781", func := "pub-emendator/laws.FnMainSame", spec := "fnMainSame", inPlace := ["math.archMax", "math.Float64bits", "math.Float64frombits", "math.archMin"], recurses := true, named := ["unicode/utf8.first", "unicode/utf8.acceptRanges"], apart := false, laid := [("unicode/utf8.acceptRanges", laid_unicode_utf8_acceptRanges), ("unicode/utf8.first", laid_unicode_utf8_first)] }
def FnMainSameSaid : Prop := fnMainSameRow.holds Tryd.pinned (OpenSpec.ofChange fnMainSameSpec)

/-- ITS FALSE NEIGHBOUR: 'it returns false'. Refute it at one input. -/
def fnMainSameWrong : ChangeSpec := { name := "fnMainSame", fn := fun _ => fun
  | [d1, d2] => { results := [.lit (.bool false)], args := [d1, d2] }
  | _ => none }
def FnMainSameWrongFalsely : Prop := fnMainSameRow.holds Tryd.pinned (OpenSpec.ofChange fnMainSameWrong)

/-- 'laws.FnMainWithin': WHATEVER THE INPUT: true; the input reads as it did. -/
def fnMainWithinSpec : ChangeSpec := { name := "fnMainWithin", fn := fun _ => fun
  | [d1, d2, d3] => { results := [.lit (.bool true)], args := [d1, d2, d3] }
  | _ => none }
def fnMainWithinRow : OpenClaim := { program := "ytmlfecgppnffgaadoor", sum := "aa412a008a47bbbb75dbe7d9e8deb2ef0f96e6c8ad7abae0de1c21914bfd1781", func := "pub-emendator/laws.FnMainWithin", spec := "fnMainWithin", inPlace := ["math.archMax", "math.Float64bits", "math.Float64frombits", "math.archMin"], recurses := true, named := ["unicode/utf8.first", "unicode/utf8.acceptRanges"], apart := false, laid := [("unicode/utf8.acceptRanges", laid_unicode_utf8_acceptRanges), ("unicode/utf8.first", laid_unicode_utf8_first)] }
def FnMainWithinSaid : Prop := fnMainWithinRow.holds Tryd.pinned (OpenSpec.ofChange fnMainWithinSpec)

/-- ITS FALSE NEIGHBOUR: 'it returns false'. Refute it at one input. -/
def fnMainWithinWrong : ChangeSpec := { name := "fnMainWithin", fn := fun _ => fun
  | [d1, d2, d3] => { results := [.lit (.bool false)], args := [d1, d2, d3] }
  | _ => none }
def FnMainWithinWrongFalsely : Prop := fnMainWithinRow.holds Tryd.pinned (OpenSpec.ofChange fnMainWithinWrong)

/-- 'laws.FnMainFast': WHATEVER THE INPUT: true; the input reads as it did. -/
def fnMainFastSpec : ChangeSpec := { name := "fnMainFast", fn := fun _ => fun
  | [d1, d2] => { results := [.lit (.bool true)], args := [d1, d2] }
  | _ => none }
def fnMainFastRow : OpenClaim := { program := "ytmlfecgppnffgaadoor", sum := "aa412a008a47bbbb75dbe7d9e8deb2ef0f96e6c8ad7abae0de1c21914bfd1781", func := "pub-emendator/laws.FnMainFast", spec := "fnMainFast", inPlace := ["math.archMax", "math.Float64bits", "math.Float64frombits", "math.archMin"], recurses := true, named := ["unicode/utf8.first", "unicode/utf8.acceptRanges"], apart := false, laid := [("unicode/utf8.acceptRanges", laid_unicode_utf8_acceptRanges), ("unicode/utf8.first", laid_unicode_utf8_first)] }
def FnMainFastSaid : Prop := fnMainFastRow.holds Tryd.pinned (OpenSpec.ofChange fnMainFastSpec)

/-- ITS FALSE NEIGHBOUR: 'it returns false'. Refute it at one input. -/
def fnMainFastWrong : ChangeSpec := { name := "fnMainFast", fn := fun _ => fun
  | [d1, d2] => { results := [.lit (.bool false)], args := [d1, d2] }
  | _ => none }
def FnMainFastWrongFalsely : Prop := fnMainFastRow.holds Tryd.pinned (OpenSpec.ofChange fnMainFastWrong)

/-- 'laws.FnMainRunes': WHATEVER THE INPUT: true; the input reads as it did. -/
def fnMainRunesSpec : ChangeSpec := { name := "fnMainRunes", fn := fun _ => fun
  | [d1, d2, d3] => { results := [.lit (.bool true)], args := [d1, d2, d3] }
  | _ => none }
def fnMainRunesRow : OpenClaim := { program := "ytmlfecgppnffgaadoor", sum := "aa412a008a47bbbb75dbe7d9e8deb2ef0f96e6c8ad7abae0de1c21914bfd1781", func := "pub-emendator/laws.FnMainRunes", spec := "fnMainRunes", inPlace := ["math.archMax", "math.Float64bits", "math.Float64frombits", "math.archMin"], recurses := true, named := ["unicode/utf8.first", "unicode/utf8.acceptRanges"], apart := false, laid := [("unicode/utf8.acceptRanges", laid_unicode_utf8_acceptRanges), ("unicode/utf8.first", laid_unicode_utf8_first)] }
def FnMainRunesSaid : Prop := fnMainRunesRow.holds Tryd.pinned (OpenSpec.ofChange fnMainRunesSpec)

/-- ITS FALSE NEIGHBOUR: 'it returns false'. Refute it at one input. -/
def fnMainRunesWrong : ChangeSpec := { name := "fnMainRunes", fn := fun _ => fun
  | [d1, d2, d3] => { results := [.lit (.bool false)], args := [d1, d2, d3] }
  | _ => none }
def FnMainRunesWrongFalsely : Prop := fnMainRunesRow.holds Tryd.pinned (OpenSpec.ofChange fnMainRunesWrong)

/-- 'laws.FnBisect': WHATEVER THE INPUT: true; the input reads as it did. -/
def fnBisectSpec : ChangeSpec := { name := "fnBisect", fn := fun _ => fun
  | [d1, d2] => { results := [.lit (.bool true)], args := [d1, d2] }
  | _ => none }
def fnBisectRow : OpenClaim := { program := "ytmlfecgppnffgaadoor", sum := "aa412a008a47bbbb75dbe7d9e8deb2ef0f96e6c8ad7abae0de1c21914bfd1781", func := "pub-emendator/laws.FnBisect", spec := "fnBisect", inPlace := ["math.archMax", "math.Float64bits", "math.Float64frombits", "math.archMin"], recurses := true, named := ["unicode/utf8.first", "unicode/utf8.acceptRanges"], apart := false, laid := [("unicode/utf8.acceptRanges", laid_unicode_utf8_acceptRanges), ("unicode/utf8.first", laid_unicode_utf8_first)] }
def FnBisectSaid : Prop := fnBisectRow.holds Tryd.pinned (OpenSpec.ofChange fnBisectSpec)

/-- ITS FALSE NEIGHBOUR: 'it returns false'. Refute it at one input. -/
def fnBisectWrong : ChangeSpec := { name := "fnBisect", fn := fun _ => fun
  | [d1, d2] => { results := [.lit (.bool false)], args := [d1, d2] }
  | _ => none }
def FnBisectWrongFalsely : Prop := fnBisectRow.holds Tryd.pinned (OpenSpec.ofChange fnBisectWrong)

/-- 'laws.FnLinesBack': WHATEVER THE INPUT: true; the input reads as it did. -/
def fnLinesBackSpec : ChangeSpec := { name := "fnLinesBack", fn := fun _ => fun
  | [d1, d2] => { results := [.lit (.bool true)], args := [d1, d2] }
  | _ => none }
def fnLinesBackRow : OpenClaim := { program := "ytmlfecgppnffgaadoor", sum := "aa412a008a47bbbb75dbe7d9e8deb2ef0f96e6c8ad7abae0de1c21914bfd1781", func := "pub-emendator/laws.FnLinesBack", spec := "fnLinesBack", inPlace := ["math.archMax", "math.Float64bits", "math.Float64frombits", "math.archMin"], recurses := true, named := ["unicode/utf8.first", "unicode/utf8.acceptRanges"], apart := false, laid := [("unicode/utf8.acceptRanges", laid_unicode_utf8_acceptRanges), ("unicode/utf8.first", laid_unicode_utf8_first)] }
def FnLinesBackSaid : Prop := fnLinesBackRow.holds Tryd.pinned (OpenSpec.ofChange fnLinesBackSpec)

/-- ITS FALSE NEIGHBOUR: 'it returns false'. Refute it at one input. -/
def fnLinesBackWrong : ChangeSpec := { name := "fnLinesBack", fn := fun _ => fun
  | [d1, d2] => { results := [.lit (.bool false)], args := [d1, d2] }
  | _ => none }
def FnLinesBackWrongFalsely : Prop := fnLinesBackRow.holds Tryd.pinned (OpenSpec.ofChange fnLinesBackWrong)

/-- 'laws.FnMainDistance': WHATEVER THE INPUT: true; the input reads as it did. -/
def fnMainDistanceSpec : ChangeSpec := { name := "fnMainDistance", fn := fun _ => fun
  | [d1, d2] => { results := [.lit (.bool true)], args := [d1, d2] }
  | _ => none }
def fnMainDistanceRow : OpenClaim := { program := "ytmlfecgppnffgaadoor", sum := "aa412a008a47bbbb75dbe7d9e8deb2ef0f96e6c8ad7abae0de1c21914bfd1781", func := "pub-emendator/laws.FnMainDistance", spec := "fnMainDistance", inPlace := ["math.archMax", "math.Float64bits", "math.Float64frombits", "math.archMin"], recurses := true, named := ["unicode/utf8.first", "unicode/utf8.acceptRanges"], apart := false, laid := [("unicode/utf8.acceptRanges", laid_unicode_utf8_acceptRanges), ("unicode/utf8.first", laid_unicode_utf8_first)] }
def FnMainDistanceSaid : Prop := fnMainDistanceRow.holds Tryd.pinned (OpenSpec.ofChange fnMainDistanceSpec)

/-- ITS FALSE NEIGHBOUR: 'it returns false'. Refute it at one input. -/
def fnMainDistanceWrong : ChangeSpec := { name := "fnMainDistance", fn := fun _ => fun
  | [d1, d2] => { results := [.lit (.bool false)], args := [d1, d2] }
  | _ => none }
def FnMainDistanceWrongFalsely : Prop := fnMainDistanceRow.holds Tryd.pinned (OpenSpec.ofChange fnMainDistanceWrong)

/-- 'laws.FnXIndexMain': WHATEVER THE INPUT: true; the input reads as it did. -/
def fnXIndexMainSpec : ChangeSpec := { name := "fnXIndexMain", fn := fun _ => fun
  | [d1, d2, d3] => { results := [.lit (.bool true)], args := [d1, d2, d3] }
  | _ => none }
def fnXIndexMainRow : OpenClaim := { program := "ytmlfecgppnffgaadoor", sum := "aa412a008a47bbbb75dbe7d9e8deb2ef0f96e6c8ad7abae0de1c21914bfd1781", func := "pub-emendator/laws.FnXIndexMain", spec := "fnXIndexMain", inPlace := ["math.archMax", "math.Float64bits", "math.Float64frombits", "math.archMin"], recurses := true, named := ["unicode/utf8.first", "unicode/utf8.acceptRanges"], apart := false, laid := [("unicode/utf8.acceptRanges", laid_unicode_utf8_acceptRanges), ("unicode/utf8.first", laid_unicode_utf8_first)] }
def FnXIndexMainSaid : Prop := fnXIndexMainRow.holds Tryd.pinned (OpenSpec.ofChange fnXIndexMainSpec)

/-- ITS FALSE NEIGHBOUR: 'it returns false'. Refute it at one input. -/
def fnXIndexMainWrong : ChangeSpec := { name := "fnXIndexMain", fn := fun _ => fun
  | [d1, d2, d3] => { results := [.lit (.bool false)], args := [d1, d2, d3] }
  | _ => none }
def FnXIndexMainWrongFalsely : Prop := fnXIndexMainRow.holds Tryd.pinned (OpenSpec.ofChange fnXIndexMainWrong)

/- THE SECOND FORM. 'bulk': how many values and letters a reading holds, each counted each time it is reached (what is shared counts as often as it is met; a slice's spare places count too). A statement '..UptoSaid' is the law's where the arguments, and the package variables that the reading takes, are together of bulk at most 1048576: NARROWER than '..Said'. Prove '..Said' where nothing that the law and all that it calls make is longer than what came in: it says more and counts as full. Else prove '..UptoSaid'. A law counts once. -/
mutual
def uptoBulk {H : Type} : DataW H → Nat
  | .lit (.string bytes) => bytes.length + 1
  | .lit _ => 1
  | .nil => 1
  | .ptr d => uptoBulk d + 1
  | .slice elems spare => uptoBulkAll elems + uptoBulkAll spare + 1
  | .agg parts => uptoBulkAll parts + 1
  | .iface _ d => uptoBulk d + 1
  | .map entries => uptoBulkEntries entries + 1
  | .held _ => 1
def uptoBulkAll {H : Type} : List (DataW H) → Nat
  | [] => 0
  | d :: r => uptoBulk d + uptoBulkAll r
def uptoBulkEntries {H : Type} : List (Lit × DataW H) → Nat
  | [] => 0
  | x :: r => uptoBulkEntry x + uptoBulkEntries r
def uptoBulkEntry {H : Type} : Lit × DataW H → Nat
  | (.string bytes, d) => bytes.length + uptoBulk d + 1
  | (_, d) => uptoBulk d + 1
 end
def uptoSmall : (H : Type) → List (DataW H) → Bool := fun _ ds => decide (uptoBulkAll ds ≤ 1048576)
def OpenSpec.upto (s : _root_.Go.ChangeSpec) : _root_.Go.OpenSpec := { _root_.Go.OpenSpec.ofChange s with cond := some uptoSmall }

/-- 'laws.FnMain', WHERE WHAT IT READS IS OF BULK AT MOST 1048576: true; the input reads as it did. -/
def fnMainUptoRow : OpenClaim := { program := "ytmlfecgppnffgaadoor", sum := "aa412a008a47bbbb75dbe7d9e8deb2ef0f96e6c8ad7abae0de1c21914bfd1781", func := "pub-emendator/laws.FnMain", spec := "fnMain", inPlace := ["math.archMax", "math.Float64bits", "math.Float64frombits", "math.archMin"], recurses := true, named := ["unicode/utf8.first", "unicode/utf8.acceptRanges"], apart := false, laid := [("unicode/utf8.acceptRanges", laid_unicode_utf8_acceptRanges), ("unicode/utf8.first", laid_unicode_utf8_first)], narrowed := true }
def FnMainUptoSaid : Prop := fnMainUptoRow.holds Tryd.pinned (OpenSpec.upto fnMainSpec)

/-- 'laws.FnMainBack', WHERE WHAT IT READS IS OF BULK AT MOST 1048576: true; the input reads as it did. -/
def fnMainBackUptoRow : OpenClaim := { program := "ytmlfecgppnffgaadoor", sum := "aa412a008a47bbbb75dbe7d9e8deb2ef0f96e6c8ad7abae0de1c21914bfd1781", func := "pub-emendator/laws.FnMainBack", spec := "fnMainBack", inPlace := ["math.archMax", "math.Float64bits", "math.Float64frombits", "math.archMin"], recurses := true, named := ["unicode/utf8.first", "unicode/utf8.acceptRanges"], apart := false, laid := [("unicode/utf8.acceptRanges", laid_unicode_utf8_acceptRanges), ("unicode/utf8.first", laid_unicode_utf8_first)], narrowed := true }
def FnMainBackUptoSaid : Prop := fnMainBackUptoRow.holds Tryd.pinned (OpenSpec.upto fnMainBackSpec)

/-- 'laws.FnMainLeast', WHERE WHAT IT READS IS OF BULK AT MOST 1048576: true; the input reads as it did. -/
def fnMainLeastUptoRow : OpenClaim := { program := "ytmlfecgppnffgaadoor", sum := "aa412a008a47bbbb75dbe7d9e8deb2ef0f96e6c8ad7abae0de1c21914bfd1781", func := "pub-emendator/laws.FnMainLeast", spec := "fnMainLeast", inPlace := ["math.archMax", "math.Float64bits", "math.Float64frombits", "math.archMin"], recurses := true, named := ["unicode/utf8.first", "unicode/utf8.acceptRanges"], apart := false, laid := [("unicode/utf8.acceptRanges", laid_unicode_utf8_acceptRanges), ("unicode/utf8.first", laid_unicode_utf8_first)], narrowed := true }
def FnMainLeastUptoSaid : Prop := fnMainLeastUptoRow.holds Tryd.pinned (OpenSpec.upto fnMainLeastSpec)

/-- 'laws.FnMainMerged', WHERE WHAT IT READS IS OF BULK AT MOST 1048576: true; the input reads as it did. -/
def fnMainMergedUptoRow : OpenClaim := { program := "ytmlfecgppnffgaadoor", sum := "aa412a008a47bbbb75dbe7d9e8deb2ef0f96e6c8ad7abae0de1c21914bfd1781", func := "pub-emendator/laws.FnMainMerged", spec := "fnMainMerged", inPlace := ["math.archMax", "math.Float64bits", "math.Float64frombits", "math.archMin"], recurses := true, named := ["unicode/utf8.first", "unicode/utf8.acceptRanges"], apart := false, laid := [("unicode/utf8.acceptRanges", laid_unicode_utf8_acceptRanges), ("unicode/utf8.first", laid_unicode_utf8_first)], narrowed := true }
def FnMainMergedUptoSaid : Prop := fnMainMergedUptoRow.holds Tryd.pinned (OpenSpec.upto fnMainMergedSpec)

/-- 'laws.FnMainSame', WHERE WHAT IT READS IS OF BULK AT MOST 1048576: true; the input reads as it did. -/
def fnMainSameUptoRow : OpenClaim := { program := "ytmlfecgppnffgaadoor", sum := "aa412a008a47bbbb75dbe7d9e8deb2ef0f96e6c8ad7abae0de1c21914bfd1781", func := "pub-emendator/laws.FnMainSame", spec := "fnMainSame", inPlace := ["math.archMax", "math.Float64bits", "math.Float64frombits", "math.archMin"], recurses := true, named := ["unicode/utf8.first", "unicode/utf8.acceptRanges"], apart := false, laid := [("unicode/utf8.acceptRanges", laid_unicode_utf8_acceptRanges), ("unicode/utf8.first", laid_unicode_utf8_first)], narrowed := true }
def FnMainSameUptoSaid : Prop := fnMainSameUptoRow.holds Tryd.pinned (OpenSpec.upto fnMainSameSpec)

/-- 'laws.FnMainWithin', WHERE WHAT IT READS IS OF BULK AT MOST 1048576: true; the input reads as it did. -/
def fnMainWithinUptoRow : OpenClaim := { program := "ytmlfecgppnffgaadoor", sum := "aa412a008a47bbbb75dbe7d9e8deb2ef0f96e6c8ad7abae0de1c21914bfd1781", func := "pub-emendator/laws.FnMainWithin", spec := "fnMainWithin", inPlace := ["math.archMax", "math.Float64bits", "math.Float64frombits", "math.archMin"], recurses := true, named := ["unicode/utf8.first", "unicode/utf8.acceptRanges"], apart := false, laid := [("unicode/utf8.acceptRanges", laid_unicode_utf8_acceptRanges), ("unicode/utf8.first", laid_unicode_utf8_first)], narrowed := true }
def FnMainWithinUptoSaid : Prop := fnMainWithinUptoRow.holds Tryd.pinned (OpenSpec.upto fnMainWithinSpec)

/-- 'laws.FnMainFast', WHERE WHAT IT READS IS OF BULK AT MOST 1048576: true; the input reads as it did. -/
def fnMainFastUptoRow : OpenClaim := { program := "ytmlfecgppnffgaadoor", sum := "aa412a008a47bbbb75dbe7d9e8deb2ef0f96e6c8ad7abae0de1c21914bfd1781", func := "pub-emendator/laws.FnMainFast", spec := "fnMainFast", inPlace := ["math.archMax", "math.Float64bits", "math.Float64frombits", "math.archMin"], recurses := true, named := ["unicode/utf8.first", "unicode/utf8.acceptRanges"], apart := false, laid := [("unicode/utf8.acceptRanges", laid_unicode_utf8_acceptRanges), ("unicode/utf8.first", laid_unicode_utf8_first)], narrowed := true }
def FnMainFastUptoSaid : Prop := fnMainFastUptoRow.holds Tryd.pinned (OpenSpec.upto fnMainFastSpec)

/-- 'laws.FnMainRunes', WHERE WHAT IT READS IS OF BULK AT MOST 1048576: true; the input reads as it did. -/
def fnMainRunesUptoRow : OpenClaim := { program := "ytmlfecgppnffgaadoor", sum := "aa412a008a47bbbb75dbe7d9e8deb2ef0f96e6c8ad7abae0de1c21914bfd1781", func := "pub-emendator/laws.FnMainRunes", spec := "fnMainRunes", inPlace := ["math.archMax", "math.Float64bits", "math.Float64frombits", "math.archMin"], recurses := true, named := ["unicode/utf8.first", "unicode/utf8.acceptRanges"], apart := false, laid := [("unicode/utf8.acceptRanges", laid_unicode_utf8_acceptRanges), ("unicode/utf8.first", laid_unicode_utf8_first)], narrowed := true }
def FnMainRunesUptoSaid : Prop := fnMainRunesUptoRow.holds Tryd.pinned (OpenSpec.upto fnMainRunesSpec)

/-- 'laws.FnBisect', WHERE WHAT IT READS IS OF BULK AT MOST 1048576: true; the input reads as it did. -/
def fnBisectUptoRow : OpenClaim := { program := "ytmlfecgppnffgaadoor", sum := "aa412a008a47bbbb75dbe7d9e8deb2ef0f96e6c8ad7abae0de1c21914bfd1781", func := "pub-emendator/laws.FnBisect", spec := "fnBisect", inPlace := ["math.archMax", "math.Float64bits", "math.Float64frombits", "math.archMin"], recurses := true, named := ["unicode/utf8.first", "unicode/utf8.acceptRanges"], apart := false, laid := [("unicode/utf8.acceptRanges", laid_unicode_utf8_acceptRanges), ("unicode/utf8.first", laid_unicode_utf8_first)], narrowed := true }
def FnBisectUptoSaid : Prop := fnBisectUptoRow.holds Tryd.pinned (OpenSpec.upto fnBisectSpec)

/-- 'laws.FnLinesBack', WHERE WHAT IT READS IS OF BULK AT MOST 1048576: true; the input reads as it did. -/
def fnLinesBackUptoRow : OpenClaim := { program := "ytmlfecgppnffgaadoor", sum := "aa412a008a47bbbb75dbe7d9e8deb2ef0f96e6c8ad7abae0de1c21914bfd1781", func := "pub-emendator/laws.FnLinesBack", spec := "fnLinesBack", inPlace := ["math.archMax", "math.Float64bits", "math.Float64frombits", "math.archMin"], recurses := true, named := ["unicode/utf8.first", "unicode/utf8.acceptRanges"], apart := false, laid := [("unicode/utf8.acceptRanges", laid_unicode_utf8_acceptRanges), ("unicode/utf8.first", laid_unicode_utf8_first)], narrowed := true }
def FnLinesBackUptoSaid : Prop := fnLinesBackUptoRow.holds Tryd.pinned (OpenSpec.upto fnLinesBackSpec)

/-- 'laws.FnMainDistance', WHERE WHAT IT READS IS OF BULK AT MOST 1048576: true; the input reads as it did. -/
def fnMainDistanceUptoRow : OpenClaim := { program := "ytmlfecgppnffgaadoor", sum := "aa412a008a47bbbb75dbe7d9e8deb2ef0f96e6c8ad7abae0de1c21914bfd1781", func := "pub-emendator/laws.FnMainDistance", spec := "fnMainDistance", inPlace := ["math.archMax", "math.Float64bits", "math.Float64frombits", "math.archMin"], recurses := true, named := ["unicode/utf8.first", "unicode/utf8.acceptRanges"], apart := false, laid := [("unicode/utf8.acceptRanges", laid_unicode_utf8_acceptRanges), ("unicode/utf8.first", laid_unicode_utf8_first)], narrowed := true }
def FnMainDistanceUptoSaid : Prop := fnMainDistanceUptoRow.holds Tryd.pinned (OpenSpec.upto fnMainDistanceSpec)

/-- 'laws.FnXIndexMain', WHERE WHAT IT READS IS OF BULK AT MOST 1048576: true; the input reads as it did. -/
def fnXIndexMainUptoRow : OpenClaim := { program := "ytmlfecgppnffgaadoor", sum := "aa412a008a47bbbb75dbe7d9e8deb2ef0f96e6c8ad7abae0de1c21914bfd1781", func := "pub-emendator/laws.FnXIndexMain", spec := "fnXIndexMain", inPlace := ["math.archMax", "math.Float64bits", "math.Float64frombits", "math.archMin"], recurses := true, named := ["unicode/utf8.first", "unicode/utf8.acceptRanges"], apart := false, laid := [("unicode/utf8.acceptRanges", laid_unicode_utf8_acceptRanges), ("unicode/utf8.first", laid_unicode_utf8_first)], narrowed := true }
def FnXIndexMainUptoSaid : Prop := fnXIndexMainUptoRow.holds Tryd.pinned (OpenSpec.upto fnXIndexMainSpec)

end Rows
end Go.Proofs.YtmlfecgppnffgaaDoor
