/-
  No cell of these rows narrows 'for every input' (looked for: loops, veiled, ifaces, maps, wideKeys, modest, calm, conditions, laid).
  DERIVED. THE GIVEN ROWS OF THIS SEAT. 2 by the template 'for every input the law returns true; each argument reads behind the call as it read before'; 0 by the template 'total and deterministic' (their statements: YtmdgnglgabnhnaaTotals.lean).
  GIVEN WITH THE SEED: the statements are not yours to turn. If you find one false, say at which input.
  Laid BY PROGRAM, IN A SANDBOX (cutbox-rows.mjs): the forced cells as the released guide's own fill.sh prints them over the translation 3783c6168ced8be3… (all of the seat's roots in one cut). By AI agents, Wed Nov 11 2026. No macro, syntax, notation, axiom, sorry.
-/
import Derived.Test.YtmdgnglgabnhnaaChecked
import GoSem.Claim
import GoSem.ClaimJoined
import GoSem.ClaimMapViews
import Derived.JoinedTies
import Derived.KernelRfl
namespace Go.Proofs.Ytmdgnglgabnhnaa
/- THE CELL 'sum', in the pinned program and in every row, IS THE sha256 OF THE DUMP (.gsa) THAT YtmdgnglgabnhnaaProg.lean LOADS. Nothing in Lean hashes anything: it is a label: what it is worth is what the hold of that sum in a sandbox is worth. -/
noncomputable def Try.pinned : Pinned := { name := "ytmdgnglgabnhnaa", sum := "3783c6168ced8be3f64b893e555789be387e43403afb994347a9bfa646306cf7", checked := Try.checked }
namespace Rows
def none {H : Type} : Left H := { results := [], args := [] }

/-- 'laws.FnAlphabet': WHATEVER THE INPUT: true; the input reads as it did. -/
def fnAlphabetSpec : ChangeSpec := { name := "fnAlphabet", fn := fun _ => fun
  | [d] => { results := [.lit (.bool true)], args := [d] }
  | _ => none }
def fnAlphabetRow : OpenClaim := { program := "ytmdgnglgabnhnaa", sum := "3783c6168ced8be3f64b893e555789be387e43403afb994347a9bfa646306cf7", func := "pub-emendator/laws.FnAlphabet", spec := "fnAlphabet", apart := false }
def FnAlphabetSaid : Prop := fnAlphabetRow.holds Try.pinned (OpenSpec.ofChange fnAlphabetSpec)

/-- ITS FALSE NEIGHBOUR: 'it returns false'. Refute it at one input. -/
def fnAlphabetWrong : ChangeSpec := { name := "fnAlphabet", fn := fun _ => fun
  | [d] => { results := [.lit (.bool false)], args := [d] }
  | _ => none }
def FnAlphabetWrongFalsely : Prop := fnAlphabetRow.holds Try.pinned (OpenSpec.ofChange fnAlphabetWrong)

/-- 'laws.FnOverlap': WHATEVER THE INPUT: true; the input reads as it did. -/
def fnOverlapSpec : ChangeSpec := { name := "fnOverlap", fn := fun _ => fun
  | [d1, d2] => { results := [.lit (.bool true)], args := [d1, d2] }
  | _ => none }
def fnOverlapRow : OpenClaim := { program := "ytmdgnglgabnhnaa", sum := "3783c6168ced8be3f64b893e555789be387e43403afb994347a9bfa646306cf7", func := "pub-emendator/laws.FnOverlap", spec := "fnOverlap", inPlace := ["math.archMin", "math.Float64bits", "math.Float64frombits"], apart := false }
def FnOverlapSaid : Prop := fnOverlapRow.holds Try.pinned (OpenSpec.ofChange fnOverlapSpec)

/-- ITS FALSE NEIGHBOUR: 'it returns false'. Refute it at one input. -/
def fnOverlapWrong : ChangeSpec := { name := "fnOverlap", fn := fun _ => fun
  | [d1, d2] => { results := [.lit (.bool false)], args := [d1, d2] }
  | _ => none }
def FnOverlapWrongFalsely : Prop := fnOverlapRow.holds Try.pinned (OpenSpec.ofChange fnOverlapWrong)

/- THE SECOND FORM. 'bulk': how many values and letters a reading holds, each counted each time it is reached (what is shared counts as often as it is met; a slice's spare places count too). A statement '..UptoSaid' is the law's where the arguments, and the package variables that the reading takes, are together of bulk at most 1048576: NARROWER than '..Said'. Prove '..Said' where nothing that the law and all that it calls make is longer than what came in: it says more and counts as full. Else prove '..UptoSaid'. A law counts once. -/
mutual
def uptoBulk {H : Type} : DataW H → Nat
  | .lit (.string bytes) => bytes.length + 1
  | .lit _ => 1
  | .nil => 1
  | .ptr d => uptoBulk d + 1
  | .slice elems spare => uptoBulkAll elems + uptoBulkAll spare + 1
  | .agg parts => uptoBulkAll parts + 1
  | .iface _ d => uptoBulk d + 1
  | .map entries => uptoBulkEntries entries + 1
  | .held _ => 1
def uptoBulkAll {H : Type} : List (DataW H) → Nat
  | [] => 0
  | d :: r => uptoBulk d + uptoBulkAll r
def uptoBulkEntries {H : Type} : List (Lit × DataW H) → Nat
  | [] => 0
  | x :: r => uptoBulkEntry x + uptoBulkEntries r
def uptoBulkEntry {H : Type} : Lit × DataW H → Nat
  | (.string bytes, d) => bytes.length + uptoBulk d + 1
  | (_, d) => uptoBulk d + 1
 end
def uptoSmall : (H : Type) → List (DataW H) → Bool := fun _ ds => decide (uptoBulkAll ds ≤ 1048576)
def OpenSpec.upto (s : _root_.Go.ChangeSpec) : _root_.Go.OpenSpec := { _root_.Go.OpenSpec.ofChange s with cond := some uptoSmall }

/-- 'laws.FnAlphabet', WHERE WHAT IT READS IS OF BULK AT MOST 1048576: true; the input reads as it did. -/
def fnAlphabetUptoRow : OpenClaim := { program := "ytmdgnglgabnhnaa", sum := "3783c6168ced8be3f64b893e555789be387e43403afb994347a9bfa646306cf7", func := "pub-emendator/laws.FnAlphabet", spec := "fnAlphabet", apart := false, narrowed := true }
def FnAlphabetUptoSaid : Prop := fnAlphabetUptoRow.holds Try.pinned (OpenSpec.upto fnAlphabetSpec)

/-- 'laws.FnOverlap', WHERE WHAT IT READS IS OF BULK AT MOST 1048576: true; the input reads as it did. -/
def fnOverlapUptoRow : OpenClaim := { program := "ytmdgnglgabnhnaa", sum := "3783c6168ced8be3f64b893e555789be387e43403afb994347a9bfa646306cf7", func := "pub-emendator/laws.FnOverlap", spec := "fnOverlap", inPlace := ["math.archMin", "math.Float64bits", "math.Float64frombits"], apart := false, narrowed := true }
def FnOverlapUptoSaid : Prop := fnOverlapUptoRow.holds Try.pinned (OpenSpec.upto fnOverlapSpec)

end Rows
end Go.Proofs.Ytmdgnglgabnhnaa
