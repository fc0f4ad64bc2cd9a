/-
  No cell of these rows narrows 'for every input' (looked for: loops, veiled, ifaces, maps, wideKeys, modest, calm, conditions, laid).
  DERIVED. THE GIVEN ROWS OF THIS SEAT. 9 by the template 'for every input the law returns true; each argument reads behind the call as it read before'; 0 by the template 'total and deterministic' (their statements: YtfglahmbnnkijaaTotals.lean).
  GIVEN WITH THE SEED: the statements are not yours to turn. If you find one false, say at which input.
  Laid BY PROGRAM, IN A SANDBOX (cutbox-rows.mjs): the forced cells as the released guide's own fill.sh prints them over the translation 3c0848ee488476fd… (all of the seat's roots in one cut). By AI agents, Wed Nov 11 2026. No macro, syntax, notation, axiom, sorry.
-/
import Derived.Test.YtfglahmbnnkijaaChecked
import GoSem.Claim
import GoSem.ClaimJoined
import GoSem.ClaimMapViews
import Derived.JoinedTies
import Derived.KernelRfl
namespace Go.Proofs.Ytfglahmbnnkijaa
/- THE CELL 'sum', in the pinned program and in every row, IS THE sha256 OF THE DUMP (.gsa) THAT YtfglahmbnnkijaaProg.lean LOADS. Nothing in Lean hashes anything: it is a label: what it is worth is what the hold of that sum in a sandbox is worth. -/
noncomputable def Try.pinned : Pinned := { name := "ytfglahmbnnkijaa", sum := "3c0848ee488476fdf923698c10e6b146de432a43c86ae1426f1cfc2dc9ca1eb5", checked := Try.checked }
namespace Rows
def none {H : Type} : Left H := { results := [], args := [] }

/-- 'laws.FnUdiffLeast': WHATEVER THE INPUT: true; the input reads as it did. -/
def fnUdiffLeastSpec : ChangeSpec := { name := "fnUdiffLeast", fn := fun _ => fun
  | [d1, d2] => { results := [.lit (.bool true)], args := [d1, d2] }
  | _ => none }
def fnUdiffLeastRow : OpenClaim := { program := "ytfglahmbnnkijaa", sum := "3c0848ee488476fdf923698c10e6b146de432a43c86ae1426f1cfc2dc9ca1eb5", func := "pub-emendator/laws.FnUdiffLeast", spec := "fnUdiffLeast", unfollowed := true, recurses := true, apart := false }
def FnUdiffLeastSaid : Prop := fnUdiffLeastRow.holds Try.pinned (OpenSpec.ofChange fnUdiffLeastSpec)

/-- ITS FALSE NEIGHBOUR: 'it returns false'. Refute it at one input. -/
def fnUdiffLeastWrong : ChangeSpec := { name := "fnUdiffLeast", fn := fun _ => fun
  | [d1, d2] => { results := [.lit (.bool false)], args := [d1, d2] }
  | _ => none }
def FnUdiffLeastWrongFalsely : Prop := fnUdiffLeastRow.holds Try.pinned (OpenSpec.ofChange fnUdiffLeastWrong)

/-- 'laws.FnUdiffOrder': WHATEVER THE INPUT: true; the input reads as it did. -/
def fnUdiffOrderSpec : ChangeSpec := { name := "fnUdiffOrder", fn := fun _ => fun
  | [d1, d2] => { results := [.lit (.bool true)], args := [d1, d2] }
  | _ => none }
def fnUdiffOrderRow : OpenClaim := { program := "ytfglahmbnnkijaa", sum := "3c0848ee488476fdf923698c10e6b146de432a43c86ae1426f1cfc2dc9ca1eb5", func := "pub-emendator/laws.FnUdiffOrder", spec := "fnUdiffOrder", unfollowed := true, recurses := true, apart := false }
def FnUdiffOrderSaid : Prop := fnUdiffOrderRow.holds Try.pinned (OpenSpec.ofChange fnUdiffOrderSpec)

/-- ITS FALSE NEIGHBOUR: 'it returns false'. Refute it at one input. -/
def fnUdiffOrderWrong : ChangeSpec := { name := "fnUdiffOrder", fn := fun _ => fun
  | [d1, d2] => { results := [.lit (.bool false)], args := [d1, d2] }
  | _ => none }
def FnUdiffOrderWrongFalsely : Prop := fnUdiffOrderRow.holds Try.pinned (OpenSpec.ofChange fnUdiffOrderWrong)

/-- 'laws.FnUdiffStrings': WHATEVER THE INPUT: true; the input reads as it did. -/
def fnUdiffStringsSpec : ChangeSpec := { name := "fnUdiffStrings", fn := fun _ => fun
  | [d1, d2] => { results := [.lit (.bool true)], args := [d1, d2] }
  | _ => none }
def fnUdiffStringsRow : OpenClaim := { program := "ytfglahmbnnkijaa", sum := "3c0848ee488476fdf923698c10e6b146de432a43c86ae1426f1cfc2dc9ca1eb5", func := "pub-emendator/laws.FnUdiffStrings", spec := "fnUdiffStrings", unfollowed := true, recurses := true, apart := false }
def FnUdiffStringsSaid : Prop := fnUdiffStringsRow.holds Try.pinned (OpenSpec.ofChange fnUdiffStringsSpec)

/-- ITS FALSE NEIGHBOUR: 'it returns false'. Refute it at one input. -/
def fnUdiffStringsWrong : ChangeSpec := { name := "fnUdiffStrings", fn := fun _ => fun
  | [d1, d2] => { results := [.lit (.bool false)], args := [d1, d2] }
  | _ => none }
def FnUdiffStringsWrongFalsely : Prop := fnUdiffStringsRow.holds Try.pinned (OpenSpec.ofChange fnUdiffStringsWrong)

/-- 'laws.FnUdiffSort': WHATEVER THE INPUT: true; the input reads as it did. -/
def fnUdiffSortSpec : ChangeSpec := { name := "fnUdiffSort", fn := fun _ => fun
  | [d] => { results := [.lit (.bool true)], args := [d] }
  | _ => none }
def fnUdiffSortRow : OpenClaim := { program := "ytfglahmbnnkijaa", sum := "3c0848ee488476fdf923698c10e6b146de432a43c86ae1426f1cfc2dc9ca1eb5", func := "pub-emendator/laws.FnUdiffSort", spec := "fnUdiffSort", unfollowed := true, recurses := true, apart := false }
def FnUdiffSortSaid : Prop := fnUdiffSortRow.holds Try.pinned (OpenSpec.ofChange fnUdiffSortSpec)

/-- ITS FALSE NEIGHBOUR: 'it returns false'. Refute it at one input. -/
def fnUdiffSortWrong : ChangeSpec := { name := "fnUdiffSort", fn := fun _ => fun
  | [d] => { results := [.lit (.bool false)], args := [d] }
  | _ => none }
def FnUdiffSortWrongFalsely : Prop := fnUdiffSortRow.holds Try.pinned (OpenSpec.ofChange fnUdiffSortWrong)

/-- 'laws.FnUdiffApply': WHATEVER THE INPUT: true; the input reads as it did. -/
def fnUdiffApplySpec : ChangeSpec := { name := "fnUdiffApply", fn := fun _ => fun
  | [d1, d2] => { results := [.lit (.bool true)], args := [d1, d2] }
  | _ => none }
def fnUdiffApplyRow : OpenClaim := { program := "ytfglahmbnnkijaa", sum := "3c0848ee488476fdf923698c10e6b146de432a43c86ae1426f1cfc2dc9ca1eb5", func := "pub-emendator/laws.FnUdiffApply", spec := "fnUdiffApply", unfollowed := true, recurses := true, apart := false }
def FnUdiffApplySaid : Prop := fnUdiffApplyRow.holds Try.pinned (OpenSpec.ofChange fnUdiffApplySpec)

/-- ITS FALSE NEIGHBOUR: 'it returns false'. Refute it at one input. -/
def fnUdiffApplyWrong : ChangeSpec := { name := "fnUdiffApply", fn := fun _ => fun
  | [d1, d2] => { results := [.lit (.bool false)], args := [d1, d2] }
  | _ => none }
def FnUdiffApplyWrongFalsely : Prop := fnUdiffApplyRow.holds Try.pinned (OpenSpec.ofChange fnUdiffApplyWrong)

/-- 'laws.FnUdiffBack': WHATEVER THE INPUT: true; the input reads as it did. -/
def fnUdiffBackSpec : ChangeSpec := { name := "fnUdiffBack", fn := fun _ => fun
  | [d1, d2] => { results := [.lit (.bool true)], args := [d1, d2] }
  | _ => none }
def fnUdiffBackRow : OpenClaim := { program := "ytfglahmbnnkijaa", sum := "3c0848ee488476fdf923698c10e6b146de432a43c86ae1426f1cfc2dc9ca1eb5", func := "pub-emendator/laws.FnUdiffBack", spec := "fnUdiffBack", unfollowed := true, recurses := true, apart := false }
def FnUdiffBackSaid : Prop := fnUdiffBackRow.holds Try.pinned (OpenSpec.ofChange fnUdiffBackSpec)

/-- ITS FALSE NEIGHBOUR: 'it returns false'. Refute it at one input. -/
def fnUdiffBackWrong : ChangeSpec := { name := "fnUdiffBack", fn := fun _ => fun
  | [d1, d2] => { results := [.lit (.bool false)], args := [d1, d2] }
  | _ => none }
def FnUdiffBackWrongFalsely : Prop := fnUdiffBackRow.holds Try.pinned (OpenSpec.ofChange fnUdiffBackWrong)

/-- 'laws.FnUdiffLines': WHATEVER THE INPUT: true; the input reads as it did. -/
def fnUdiffLinesSpec : ChangeSpec := { name := "fnUdiffLines", fn := fun _ => fun
  | [d1, d2] => { results := [.lit (.bool true)], args := [d1, d2] }
  | _ => none }
def fnUdiffLinesRow : OpenClaim := { program := "ytfglahmbnnkijaa", sum := "3c0848ee488476fdf923698c10e6b146de432a43c86ae1426f1cfc2dc9ca1eb5", func := "pub-emendator/laws.FnUdiffLines", spec := "fnUdiffLines", unfollowed := true, recurses := true, apart := false }
def FnUdiffLinesSaid : Prop := fnUdiffLinesRow.holds Try.pinned (OpenSpec.ofChange fnUdiffLinesSpec)

/-- ITS FALSE NEIGHBOUR: 'it returns false'. Refute it at one input. -/
def fnUdiffLinesWrong : ChangeSpec := { name := "fnUdiffLines", fn := fun _ => fun
  | [d1, d2] => { results := [.lit (.bool false)], args := [d1, d2] }
  | _ => none }
def FnUdiffLinesWrongFalsely : Prop := fnUdiffLinesRow.holds Try.pinned (OpenSpec.ofChange fnUdiffLinesWrong)

/-- 'laws.FnUdiffMerge': WHATEVER THE INPUT: true; the input reads as it did. -/
def fnUdiffMergeSpec : ChangeSpec := { name := "fnUdiffMerge", fn := fun _ => fun
  | [d1, d2] => { results := [.lit (.bool true)], args := [d1, d2] }
  | _ => none }
def fnUdiffMergeRow : OpenClaim := { program := "ytfglahmbnnkijaa", sum := "3c0848ee488476fdf923698c10e6b146de432a43c86ae1426f1cfc2dc9ca1eb5", func := "pub-emendator/laws.FnUdiffMerge", spec := "fnUdiffMerge", unfollowed := true, recurses := true, apart := false }
def FnUdiffMergeSaid : Prop := fnUdiffMergeRow.holds Try.pinned (OpenSpec.ofChange fnUdiffMergeSpec)

/-- ITS FALSE NEIGHBOUR: 'it returns false'. Refute it at one input. -/
def fnUdiffMergeWrong : ChangeSpec := { name := "fnUdiffMerge", fn := fun _ => fun
  | [d1, d2] => { results := [.lit (.bool false)], args := [d1, d2] }
  | _ => none }
def FnUdiffMergeWrongFalsely : Prop := fnUdiffMergeRow.holds Try.pinned (OpenSpec.ofChange fnUdiffMergeWrong)

/-- 'laws.FnUdiffMyers': WHATEVER THE INPUT: true; the input reads as it did. -/
def fnUdiffMyersSpec : ChangeSpec := { name := "fnUdiffMyers", fn := fun _ => fun
  | [d1, d2] => { results := [.lit (.bool true)], args := [d1, d2] }
  | _ => none }
def fnUdiffMyersRow : OpenClaim := { program := "ytfglahmbnnkijaa", sum := "3c0848ee488476fdf923698c10e6b146de432a43c86ae1426f1cfc2dc9ca1eb5", func := "pub-emendator/laws.FnUdiffMyers", spec := "fnUdiffMyers", unfollowed := true, recurses := true, apart := false }
def FnUdiffMyersSaid : Prop := fnUdiffMyersRow.holds Try.pinned (OpenSpec.ofChange fnUdiffMyersSpec)

/-- ITS FALSE NEIGHBOUR: 'it returns false'. Refute it at one input. -/
def fnUdiffMyersWrong : ChangeSpec := { name := "fnUdiffMyers", fn := fun _ => fun
  | [d1, d2] => { results := [.lit (.bool false)], args := [d1, d2] }
  | _ => none }
def FnUdiffMyersWrongFalsely : Prop := fnUdiffMyersRow.holds Try.pinned (OpenSpec.ofChange fnUdiffMyersWrong)

/- THE SECOND FORM. 'bulk': how many values and letters a reading holds, each counted each time it is reached (what is shared counts as often as it is met; a slice's spare places count too). A statement '..UptoSaid' is the law's where the arguments, and the package variables that the reading takes, are together of bulk at most 1048576: NARROWER than '..Said'. Prove '..Said' where nothing that the law and all that it calls make is longer than what came in: it says more and counts as full. Else prove '..UptoSaid'. A law counts once. -/
mutual
def uptoBulk {H : Type} : DataW H → Nat
  | .lit (.string bytes) => bytes.length + 1
  | .lit _ => 1
  | .nil => 1
  | .ptr d => uptoBulk d + 1
  | .slice elems spare => uptoBulkAll elems + uptoBulkAll spare + 1
  | .agg parts => uptoBulkAll parts + 1
  | .iface _ d => uptoBulk d + 1
  | .map entries => uptoBulkEntries entries + 1
  | .held _ => 1
def uptoBulkAll {H : Type} : List (DataW H) → Nat
  | [] => 0
  | d :: r => uptoBulk d + uptoBulkAll r
def uptoBulkEntries {H : Type} : List (Lit × DataW H) → Nat
  | [] => 0
  | x :: r => uptoBulkEntry x + uptoBulkEntries r
def uptoBulkEntry {H : Type} : Lit × DataW H → Nat
  | (.string bytes, d) => bytes.length + uptoBulk d + 1
  | (_, d) => uptoBulk d + 1
 end
def uptoSmall : (H : Type) → List (DataW H) → Bool := fun _ ds => decide (uptoBulkAll ds ≤ 1048576)
def OpenSpec.upto (s : _root_.Go.ChangeSpec) : _root_.Go.OpenSpec := { _root_.Go.OpenSpec.ofChange s with cond := some uptoSmall }

/-- 'laws.FnUdiffLeast', WHERE WHAT IT READS IS OF BULK AT MOST 1048576: true; the input reads as it did. -/
def fnUdiffLeastUptoRow : OpenClaim := { program := "ytfglahmbnnkijaa", sum := "3c0848ee488476fdf923698c10e6b146de432a43c86ae1426f1cfc2dc9ca1eb5", func := "pub-emendator/laws.FnUdiffLeast", spec := "fnUdiffLeast", unfollowed := true, recurses := true, apart := false, narrowed := true }
def FnUdiffLeastUptoSaid : Prop := fnUdiffLeastUptoRow.holds Try.pinned (OpenSpec.upto fnUdiffLeastSpec)

/-- 'laws.FnUdiffOrder', WHERE WHAT IT READS IS OF BULK AT MOST 1048576: true; the input reads as it did. -/
def fnUdiffOrderUptoRow : OpenClaim := { program := "ytfglahmbnnkijaa", sum := "3c0848ee488476fdf923698c10e6b146de432a43c86ae1426f1cfc2dc9ca1eb5", func := "pub-emendator/laws.FnUdiffOrder", spec := "fnUdiffOrder", unfollowed := true, recurses := true, apart := false, narrowed := true }
def FnUdiffOrderUptoSaid : Prop := fnUdiffOrderUptoRow.holds Try.pinned (OpenSpec.upto fnUdiffOrderSpec)

/-- 'laws.FnUdiffStrings', WHERE WHAT IT READS IS OF BULK AT MOST 1048576: true; the input reads as it did. -/
def fnUdiffStringsUptoRow : OpenClaim := { program := "ytfglahmbnnkijaa", sum := "3c0848ee488476fdf923698c10e6b146de432a43c86ae1426f1cfc2dc9ca1eb5", func := "pub-emendator/laws.FnUdiffStrings", spec := "fnUdiffStrings", unfollowed := true, recurses := true, apart := false, narrowed := true }
def FnUdiffStringsUptoSaid : Prop := fnUdiffStringsUptoRow.holds Try.pinned (OpenSpec.upto fnUdiffStringsSpec)

/-- 'laws.FnUdiffSort', WHERE WHAT IT READS IS OF BULK AT MOST 1048576: true; the input reads as it did. -/
def fnUdiffSortUptoRow : OpenClaim := { program := "ytfglahmbnnkijaa", sum := "3c0848ee488476fdf923698c10e6b146de432a43c86ae1426f1cfc2dc9ca1eb5", func := "pub-emendator/laws.FnUdiffSort", spec := "fnUdiffSort", unfollowed := true, recurses := true, apart := false, narrowed := true }
def FnUdiffSortUptoSaid : Prop := fnUdiffSortUptoRow.holds Try.pinned (OpenSpec.upto fnUdiffSortSpec)

/-- 'laws.FnUdiffApply', WHERE WHAT IT READS IS OF BULK AT MOST 1048576: true; the input reads as it did. -/
def fnUdiffApplyUptoRow : OpenClaim := { program := "ytfglahmbnnkijaa", sum := "3c0848ee488476fdf923698c10e6b146de432a43c86ae1426f1cfc2dc9ca1eb5", func := "pub-emendator/laws.FnUdiffApply", spec := "fnUdiffApply", unfollowed := true, recurses := true, apart := false, narrowed := true }
def FnUdiffApplyUptoSaid : Prop := fnUdiffApplyUptoRow.holds Try.pinned (OpenSpec.upto fnUdiffApplySpec)

/-- 'laws.FnUdiffBack', WHERE WHAT IT READS IS OF BULK AT MOST 1048576: true; the input reads as it did. -/
def fnUdiffBackUptoRow : OpenClaim := { program := "ytfglahmbnnkijaa", sum := "3c0848ee488476fdf923698c10e6b146de432a43c86ae1426f1cfc2dc9ca1eb5", func := "pub-emendator/laws.FnUdiffBack", spec := "fnUdiffBack", unfollowed := true, recurses := true, apart := false, narrowed := true }
def FnUdiffBackUptoSaid : Prop := fnUdiffBackUptoRow.holds Try.pinned (OpenSpec.upto fnUdiffBackSpec)

/-- 'laws.FnUdiffLines', WHERE WHAT IT READS IS OF BULK AT MOST 1048576: true; the input reads as it did. -/
def fnUdiffLinesUptoRow : OpenClaim := { program := "ytfglahmbnnkijaa", sum := "3c0848ee488476fdf923698c10e6b146de432a43c86ae1426f1cfc2dc9ca1eb5", func := "pub-emendator/laws.FnUdiffLines", spec := "fnUdiffLines", unfollowed := true, recurses := true, apart := false, narrowed := true }
def FnUdiffLinesUptoSaid : Prop := fnUdiffLinesUptoRow.holds Try.pinned (OpenSpec.upto fnUdiffLinesSpec)

/-- 'laws.FnUdiffMerge', WHERE WHAT IT READS IS OF BULK AT MOST 1048576: true; the input reads as it did. -/
def fnUdiffMergeUptoRow : OpenClaim := { program := "ytfglahmbnnkijaa", sum := "3c0848ee488476fdf923698c10e6b146de432a43c86ae1426f1cfc2dc9ca1eb5", func := "pub-emendator/laws.FnUdiffMerge", spec := "fnUdiffMerge", unfollowed := true, recurses := true, apart := false, narrowed := true }
def FnUdiffMergeUptoSaid : Prop := fnUdiffMergeUptoRow.holds Try.pinned (OpenSpec.upto fnUdiffMergeSpec)

/-- 'laws.FnUdiffMyers', WHERE WHAT IT READS IS OF BULK AT MOST 1048576: true; the input reads as it did. -/
def fnUdiffMyersUptoRow : OpenClaim := { program := "ytfglahmbnnkijaa", sum := "3c0848ee488476fdf923698c10e6b146de432a43c86ae1426f1cfc2dc9ca1eb5", func := "pub-emendator/laws.FnUdiffMyers", spec := "fnUdiffMyers", unfollowed := true, recurses := true, apart := false, narrowed := true }
def FnUdiffMyersUptoSaid : Prop := fnUdiffMyersUptoRow.holds Try.pinned (OpenSpec.upto fnUdiffMyersSpec)

end Rows
end Go.Proofs.Ytfglahmbnnkijaa
