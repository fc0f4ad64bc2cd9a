/-
  DERIVED. GIVEN WITH THE SEED: THE CARDS: each row of YtmdgnglgabnhnaaDoorRows.lean that lists a variable, with what it lists TIED to the program's text (the seventh form; the later family's looks); each row that meets fmt, with fmt's text TOLD by the authors' own Lean function (tested against real Go, not proved from fmt's source: count such statements apart). THE CARD IS WHAT COUNTS. Prove the row's statement (the work); the ties are given (YtmdgnglgabnhnaaDoorTie.lean); close each card by the builder's one call (the guide's Derived/Test/ToyasCard.lean, 'card_holds'). Laid BY PROGRAM, IN A SANDBOX (cutbox-door.mjs). By AI agents, Wed Nov 11 2026. No macro, syntax, notation, axiom, sorry.
-/
import Derived.Test.YtmdgnglgabnhnaaDoorRows
import GoSem.ClaimSeven
namespace Go.Proofs.YtmdgnglgabnhnaaDoor
namespace Rows

/-- THE TIED CARD OF 'laws.FnPrefix'. -/
def fnPrefixCard : Claim7 := { stood := { row := fnPrefixRow, standIns := [], harness := (true, "55f314d9e9cf04834a5099a7a76ec6946085f448175c9763f897dc7eb87bc0b8"), looks := false }, kinds := [], alts := [], laidByText := true, laidKinds := [.data, .pinned], laidTests := true, laidLooks := .later }
def FnPrefixCardSaid : Prop := Claim7.holds Tryd.pinned (.plain (OpenSpec.ofChange fnPrefixSpec)) fnPrefixCard

/-- THE TIED CARD OF 'laws.FnLevenshtein'. -/
def fnLevenshteinCard : Claim7 := { stood := { row := fnLevenshteinRow, standIns := [], harness := (true, "55f314d9e9cf04834a5099a7a76ec6946085f448175c9763f897dc7eb87bc0b8"), looks := false }, kinds := [], alts := [], laidByText := true, laidKinds := [.data, .pinned], laidTests := true, laidLooks := .later }
def FnLevenshteinCardSaid : Prop := Claim7.holds Tryd.pinned (.plain (OpenSpec.ofChange fnLevenshteinSpec)) fnLevenshteinCard

/-- THE TIED CARD OF 'laws.FnXIndex'. -/
def fnXIndexCard : Claim7 := { stood := { row := fnXIndexRow, standIns := [], harness := (true, "55f314d9e9cf04834a5099a7a76ec6946085f448175c9763f897dc7eb87bc0b8"), looks := false }, kinds := [], alts := [], laidByText := true, laidKinds := [.data, .pinned], laidTests := true, laidLooks := .later }
def FnXIndexCardSaid : Prop := Claim7.holds Tryd.pinned (.plain (OpenSpec.ofChange fnXIndexSpec)) fnXIndexCard

/-- THE TIED CARD OF 'laws.FnTexts'. -/
def fnTextsCard : Claim7 := { stood := { row := fnTextsRow, standIns := [], harness := (true, "55f314d9e9cf04834a5099a7a76ec6946085f448175c9763f897dc7eb87bc0b8"), looks := false }, kinds := [], alts := [], laidByText := true, laidKinds := [.data, .sentinel, .pinned], laidTests := true, laidLooks := .later }
def FnTextsCardSaid : Prop := Claim7.holds Tryd.pinned (.plain (OpenSpec.ofChange fnTextsSpec)) fnTextsCard

/-- THE TIED CARD OF 'laws.FnOpName'. -/
def fnOpNameCard : Claim7 := { stood := { row := fnOpNameRow, standIns := [], harness := (true, "55f314d9e9cf04834a5099a7a76ec6946085f448175c9763f897dc7eb87bc0b8"), looks := false }, kinds := [], alts := [], laidByText := true, laidKinds := [.data, .data, .data, .data], laidTests := true, laidLooks := .later }
def FnOpNameCardSaid : Prop := Claim7.holds Tryd.pinned (.plain (OpenSpec.ofChange fnOpNameSpec)) fnOpNameCard

/-- THE TIED CARD OF 'laws.FnHalfMatch'. -/
def fnHalfMatchCard : Claim7 := { stood := { row := fnHalfMatchRow, standIns := [], harness := (true, "55f314d9e9cf04834a5099a7a76ec6946085f448175c9763f897dc7eb87bc0b8"), looks := false }, kinds := [], alts := [], laidByText := true, laidKinds := [.data, .pinned], laidTests := true, laidLooks := .later }
def FnHalfMatchCardSaid : Prop := Claim7.holds Tryd.pinned (.plain (OpenSpec.ofChange fnHalfMatchSpec)) fnHalfMatchCard

/-- THE TIED CARD OF 'laws.FnHalfNone'. -/
def fnHalfNoneCard : Claim7 := { stood := { row := fnHalfNoneRow, standIns := [], harness := (true, "55f314d9e9cf04834a5099a7a76ec6946085f448175c9763f897dc7eb87bc0b8"), looks := false }, kinds := [], alts := [], laidByText := true, laidKinds := [.data, .pinned], laidTests := true, laidLooks := .later }
def FnHalfNoneCardSaid : Prop := Claim7.holds Tryd.pinned (.plain (OpenSpec.ofChange fnHalfNoneSpec)) fnHalfNoneCard

/-- THE TIED CARD OF 'laws.FnLines'. -/
def fnLinesCard : Claim7 := { stood := { row := fnLinesRow, standIns := [], harness := (true, "55f314d9e9cf04834a5099a7a76ec6946085f448175c9763f897dc7eb87bc0b8"), looks := false }, kinds := [], alts := [], laidByText := true, laidKinds := [.data, .pinned], laidTests := true, laidLooks := .later }
def FnLinesCardSaid : Prop := Claim7.holds Tryd.pinned (.plain (OpenSpec.ofChange fnLinesSpec)) fnLinesCard

/-- THE SECOND FORM's CARD OF 'laws.FnPrefix'. -/
def fnPrefixUptoCard : Claim7 := { stood := { row := fnPrefixUptoRow, standIns := [], harness := (true, "55f314d9e9cf04834a5099a7a76ec6946085f448175c9763f897dc7eb87bc0b8"), looks := false }, kinds := [], alts := [], laidByText := true, laidKinds := [.data, .pinned], laidTests := true, laidLooks := .later }
def FnPrefixUptoCardSaid : Prop := Claim7.holds Tryd.pinned (.plain (OpenSpec.upto fnPrefixSpec)) fnPrefixUptoCard

/-- THE SECOND FORM's CARD OF 'laws.FnLevenshtein'. -/
def fnLevenshteinUptoCard : Claim7 := { stood := { row := fnLevenshteinUptoRow, standIns := [], harness := (true, "55f314d9e9cf04834a5099a7a76ec6946085f448175c9763f897dc7eb87bc0b8"), looks := false }, kinds := [], alts := [], laidByText := true, laidKinds := [.data, .pinned], laidTests := true, laidLooks := .later }
def FnLevenshteinUptoCardSaid : Prop := Claim7.holds Tryd.pinned (.plain (OpenSpec.upto fnLevenshteinSpec)) fnLevenshteinUptoCard

/-- THE SECOND FORM's CARD OF 'laws.FnXIndex'. -/
def fnXIndexUptoCard : Claim7 := { stood := { row := fnXIndexUptoRow, standIns := [], harness := (true, "55f314d9e9cf04834a5099a7a76ec6946085f448175c9763f897dc7eb87bc0b8"), looks := false }, kinds := [], alts := [], laidByText := true, laidKinds := [.data, .pinned], laidTests := true, laidLooks := .later }
def FnXIndexUptoCardSaid : Prop := Claim7.holds Tryd.pinned (.plain (OpenSpec.upto fnXIndexSpec)) fnXIndexUptoCard

/-- THE SECOND FORM's CARD OF 'laws.FnTexts'. -/
def fnTextsUptoCard : Claim7 := { stood := { row := fnTextsUptoRow, standIns := [], harness := (true, "55f314d9e9cf04834a5099a7a76ec6946085f448175c9763f897dc7eb87bc0b8"), looks := false }, kinds := [], alts := [], laidByText := true, laidKinds := [.data, .sentinel, .pinned], laidTests := true, laidLooks := .later }
def FnTextsUptoCardSaid : Prop := Claim7.holds Tryd.pinned (.plain (OpenSpec.upto fnTextsSpec)) fnTextsUptoCard

/-- THE SECOND FORM's CARD OF 'laws.FnOpName'. -/
def fnOpNameUptoCard : Claim7 := { stood := { row := fnOpNameUptoRow, standIns := [], harness := (true, "55f314d9e9cf04834a5099a7a76ec6946085f448175c9763f897dc7eb87bc0b8"), looks := false }, kinds := [], alts := [], laidByText := true, laidKinds := [.data, .data, .data, .data], laidTests := true, laidLooks := .later }
def FnOpNameUptoCardSaid : Prop := Claim7.holds Tryd.pinned (.plain (OpenSpec.upto fnOpNameSpec)) fnOpNameUptoCard

/-- THE SECOND FORM's CARD OF 'laws.FnHalfMatch'. -/
def fnHalfMatchUptoCard : Claim7 := { stood := { row := fnHalfMatchUptoRow, standIns := [], harness := (true, "55f314d9e9cf04834a5099a7a76ec6946085f448175c9763f897dc7eb87bc0b8"), looks := false }, kinds := [], alts := [], laidByText := true, laidKinds := [.data, .pinned], laidTests := true, laidLooks := .later }
def FnHalfMatchUptoCardSaid : Prop := Claim7.holds Tryd.pinned (.plain (OpenSpec.upto fnHalfMatchSpec)) fnHalfMatchUptoCard

/-- THE SECOND FORM's CARD OF 'laws.FnHalfNone'. -/
def fnHalfNoneUptoCard : Claim7 := { stood := { row := fnHalfNoneUptoRow, standIns := [], harness := (true, "55f314d9e9cf04834a5099a7a76ec6946085f448175c9763f897dc7eb87bc0b8"), looks := false }, kinds := [], alts := [], laidByText := true, laidKinds := [.data, .pinned], laidTests := true, laidLooks := .later }
def FnHalfNoneUptoCardSaid : Prop := Claim7.holds Tryd.pinned (.plain (OpenSpec.upto fnHalfNoneSpec)) fnHalfNoneUptoCard

/-- THE SECOND FORM's CARD OF 'laws.FnLines'. -/
def fnLinesUptoCard : Claim7 := { stood := { row := fnLinesUptoRow, standIns := [], harness := (true, "55f314d9e9cf04834a5099a7a76ec6946085f448175c9763f897dc7eb87bc0b8"), looks := false }, kinds := [], alts := [], laidByText := true, laidKinds := [.data, .pinned], laidTests := true, laidLooks := .later }
def FnLinesUptoCardSaid : Prop := Claim7.holds Tryd.pinned (.plain (OpenSpec.upto fnLinesSpec)) fnLinesUptoCard
end Rows
end Go.Proofs.YtmdgnglgabnhnaaDoor
