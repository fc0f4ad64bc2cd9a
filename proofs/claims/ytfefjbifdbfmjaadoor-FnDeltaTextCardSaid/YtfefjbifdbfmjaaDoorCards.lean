/-
  DERIVED. GIVEN WITH THE SEED: THE CARDS: each row of YtfefjbifdbfmjaaDoorRows.lean that lists a variable, with what it lists TIED to the program's text (the seventh form; the later family's looks); each row that meets fmt, with fmt's text TOLD by the authors' own Lean function (tested against real Go, not proved from fmt's source: count such statements apart). THE CARD IS WHAT COUNTS. Prove the row's statement (the work); the ties are given (YtfefjbifdbfmjaaDoorTie.lean); close each card by the builder's one call (the guide's Derived/Test/ToyasCard.lean, 'card_holds'). Laid BY PROGRAM, IN A SANDBOX (cutbox-door.mjs). By AI agents, Wed Nov 11 2026. No macro, syntax, notation, axiom, sorry.
-/
import Derived.Test.YtfefjbifdbfmjaaDoorRows
import GoSem.ClaimSeven
namespace Go.Proofs.YtfefjbifdbfmjaaDoor
namespace Rows

/-- THE TIED CARD OF 'laws.FnDeltaBack'. -/
def fnDeltaBackCard : Claim7 := { stood := { row := fnDeltaBackRow, standIns := [], harness := (true, "712b7b91325b95cb8fae73a2d3c0de4633f24165461bc58ca95a69cde593fd45"), looks := true }, kinds := [], alts := [], laidByText := true, laidKinds := [.data, .data, .data, .data, .sentinel, .sentinel, .sentinel, .pinned], laidTests := true, laidLooks := .later }
def FnDeltaBackCardSaid : Prop := Claim7.holds Tryd.pinned (.plain (OpenSpec.ofChange fnDeltaBackSpec)) fnDeltaBackCard

/-- THE TIED CARD OF 'laws.FnDeltaRead'. -/
def fnDeltaReadCard : Claim7 := { stood := { row := fnDeltaReadRow, standIns := [], harness := (true, "712b7b91325b95cb8fae73a2d3c0de4633f24165461bc58ca95a69cde593fd45"), looks := true }, kinds := [], alts := [], laidByText := true, laidKinds := [.data, .data, .data, .data, .sentinel, .sentinel, .sentinel, .pinned], laidTests := true, laidLooks := .later }
def FnDeltaReadCardSaid : Prop := Claim7.holds Tryd.pinned (.plain (OpenSpec.ofChange fnDeltaReadSpec)) fnDeltaReadCard

/-- THE TIED CARD OF 'laws.FnDeltaText'. -/
def fnDeltaTextCard : Claim7 := { stood := { row := fnDeltaTextRow, standIns := [], harness := (true, "712b7b91325b95cb8fae73a2d3c0de4633f24165461bc58ca95a69cde593fd45"), looks := true }, kinds := [], alts := [], laidByText := true, laidKinds := [.data, .data, .data, .data, .sentinel, .sentinel, .sentinel, .pinned], laidTests := true, laidLooks := .later }
def FnDeltaTextCardSaid : Prop := Claim7.holds Tryd.pinned (.plain (OpenSpec.ofChange fnDeltaTextSpec)) fnDeltaTextCard

/-- THE TIED CARD OF 'laws.FnDeltaWrite'. -/
def fnDeltaWriteCard : Claim7 := { stood := { row := fnDeltaWriteRow, standIns := [], harness := (true, "712b7b91325b95cb8fae73a2d3c0de4633f24165461bc58ca95a69cde593fd45"), looks := true }, kinds := [], alts := [], laidByText := true, laidKinds := [.data, .data, .data, .data, .sentinel, .sentinel, .sentinel, .pinned], laidTests := true, laidLooks := .later }
def FnDeltaWriteCardSaid : Prop := Claim7.holds Tryd.pinned (.plain (OpenSpec.ofChange fnDeltaWriteSpec)) fnDeltaWriteCard

/-- THE TIED CARD OF 'laws.FnPrettyText'. -/
def fnPrettyTextCard : Claim7 := { stood := { row := fnPrettyTextRow, standIns := [], harness := (true, "712b7b91325b95cb8fae73a2d3c0de4633f24165461bc58ca95a69cde593fd45"), looks := true }, kinds := [], alts := [], laidByText := true, laidKinds := [.data, .data, .data, .data, .sentinel, .sentinel, .sentinel, .pinned], laidTests := true, laidLooks := .later }
def FnPrettyTextCardSaid : Prop := Claim7.holds Tryd.pinned (.plain (OpenSpec.ofChange fnPrettyTextSpec)) fnPrettyTextCard

/-- THE TIED CARD OF 'laws.FnPrettyHtml'. -/
def fnPrettyHtmlCard : Claim7 := { stood := { row := fnPrettyHtmlRow, standIns := [], harness := (true, "712b7b91325b95cb8fae73a2d3c0de4633f24165461bc58ca95a69cde593fd45"), looks := true }, kinds := [], alts := [], laidByText := true, laidKinds := [.data, .data, .data, .data, .sentinel, .sentinel, .sentinel, .pinned], laidTests := true, laidLooks := .later }
def FnPrettyHtmlCardSaid : Prop := Claim7.holds Tryd.pinned (.plain (OpenSpec.ofChange fnPrettyHtmlSpec)) fnPrettyHtmlCard

/-- THE TIED CARD OF 'laws.FnPrettyApart'. -/
def fnPrettyApartCard : Claim7 := { stood := { row := fnPrettyApartRow, standIns := [], harness := (true, "712b7b91325b95cb8fae73a2d3c0de4633f24165461bc58ca95a69cde593fd45"), looks := true }, kinds := [], alts := [], laidByText := true, laidKinds := [.data, .data, .data, .data, .sentinel, .sentinel, .sentinel, .pinned], laidTests := true, laidLooks := .later }
def FnPrettyApartCardSaid : Prop := Claim7.holds Tryd.pinned (.plain (OpenSpec.ofChange fnPrettyApartSpec)) fnPrettyApartCard

/-- THE SECOND FORM's CARD OF 'laws.FnDeltaBack'. -/
def fnDeltaBackUptoCard : Claim7 := { stood := { row := fnDeltaBackUptoRow, standIns := [], harness := (true, "712b7b91325b95cb8fae73a2d3c0de4633f24165461bc58ca95a69cde593fd45"), looks := true }, kinds := [], alts := [], laidByText := true, laidKinds := [.data, .data, .data, .data, .sentinel, .sentinel, .sentinel, .pinned], laidTests := true, laidLooks := .later }
def FnDeltaBackUptoCardSaid : Prop := Claim7.holds Tryd.pinned (.plain (OpenSpec.upto fnDeltaBackSpec)) fnDeltaBackUptoCard

/-- THE SECOND FORM's CARD OF 'laws.FnDeltaRead'. -/
def fnDeltaReadUptoCard : Claim7 := { stood := { row := fnDeltaReadUptoRow, standIns := [], harness := (true, "712b7b91325b95cb8fae73a2d3c0de4633f24165461bc58ca95a69cde593fd45"), looks := true }, kinds := [], alts := [], laidByText := true, laidKinds := [.data, .data, .data, .data, .sentinel, .sentinel, .sentinel, .pinned], laidTests := true, laidLooks := .later }
def FnDeltaReadUptoCardSaid : Prop := Claim7.holds Tryd.pinned (.plain (OpenSpec.upto fnDeltaReadSpec)) fnDeltaReadUptoCard

/-- THE SECOND FORM's CARD OF 'laws.FnDeltaText'. -/
def fnDeltaTextUptoCard : Claim7 := { stood := { row := fnDeltaTextUptoRow, standIns := [], harness := (true, "712b7b91325b95cb8fae73a2d3c0de4633f24165461bc58ca95a69cde593fd45"), looks := true }, kinds := [], alts := [], laidByText := true, laidKinds := [.data, .data, .data, .data, .sentinel, .sentinel, .sentinel, .pinned], laidTests := true, laidLooks := .later }
def FnDeltaTextUptoCardSaid : Prop := Claim7.holds Tryd.pinned (.plain (OpenSpec.upto fnDeltaTextSpec)) fnDeltaTextUptoCard

/-- THE SECOND FORM's CARD OF 'laws.FnDeltaWrite'. -/
def fnDeltaWriteUptoCard : Claim7 := { stood := { row := fnDeltaWriteUptoRow, standIns := [], harness := (true, "712b7b91325b95cb8fae73a2d3c0de4633f24165461bc58ca95a69cde593fd45"), looks := true }, kinds := [], alts := [], laidByText := true, laidKinds := [.data, .data, .data, .data, .sentinel, .sentinel, .sentinel, .pinned], laidTests := true, laidLooks := .later }
def FnDeltaWriteUptoCardSaid : Prop := Claim7.holds Tryd.pinned (.plain (OpenSpec.upto fnDeltaWriteSpec)) fnDeltaWriteUptoCard

/-- THE SECOND FORM's CARD OF 'laws.FnPrettyText'. -/
def fnPrettyTextUptoCard : Claim7 := { stood := { row := fnPrettyTextUptoRow, standIns := [], harness := (true, "712b7b91325b95cb8fae73a2d3c0de4633f24165461bc58ca95a69cde593fd45"), looks := true }, kinds := [], alts := [], laidByText := true, laidKinds := [.data, .data, .data, .data, .sentinel, .sentinel, .sentinel, .pinned], laidTests := true, laidLooks := .later }
def FnPrettyTextUptoCardSaid : Prop := Claim7.holds Tryd.pinned (.plain (OpenSpec.upto fnPrettyTextSpec)) fnPrettyTextUptoCard

/-- THE SECOND FORM's CARD OF 'laws.FnPrettyHtml'. -/
def fnPrettyHtmlUptoCard : Claim7 := { stood := { row := fnPrettyHtmlUptoRow, standIns := [], harness := (true, "712b7b91325b95cb8fae73a2d3c0de4633f24165461bc58ca95a69cde593fd45"), looks := true }, kinds := [], alts := [], laidByText := true, laidKinds := [.data, .data, .data, .data, .sentinel, .sentinel, .sentinel, .pinned], laidTests := true, laidLooks := .later }
def FnPrettyHtmlUptoCardSaid : Prop := Claim7.holds Tryd.pinned (.plain (OpenSpec.upto fnPrettyHtmlSpec)) fnPrettyHtmlUptoCard

/-- THE SECOND FORM's CARD OF 'laws.FnPrettyApart'. -/
def fnPrettyApartUptoCard : Claim7 := { stood := { row := fnPrettyApartUptoRow, standIns := [], harness := (true, "712b7b91325b95cb8fae73a2d3c0de4633f24165461bc58ca95a69cde593fd45"), looks := true }, kinds := [], alts := [], laidByText := true, laidKinds := [.data, .data, .data, .data, .sentinel, .sentinel, .sentinel, .pinned], laidTests := true, laidLooks := .later }
def FnPrettyApartUptoCardSaid : Prop := Claim7.holds Tryd.pinned (.plain (OpenSpec.upto fnPrettyApartSpec)) fnPrettyApartUptoCard
end Rows
end Go.Proofs.YtfefjbifdbfmjaaDoor
