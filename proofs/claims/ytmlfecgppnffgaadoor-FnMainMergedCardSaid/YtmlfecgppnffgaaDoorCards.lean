/-
  DERIVED. GIVEN WITH THE SEED: THE CARDS: each row of YtmlfecgppnffgaaDoorRows.lean that lists a variable, with what it lists TIED to the program's text (the seventh form; the later family's looks); each row that meets fmt, with fmt's text TOLD by the authors' own Lean function (tested against real Go, not proved from fmt's source: count such statements apart). THE CARD IS WHAT COUNTS. Prove the row's statement (the work); the ties are given (YtmlfecgppnffgaaDoorTie.lean); close each card by the builder's one call (the guide's Derived/Test/ToyasCard.lean, 'card_holds'). Laid BY PROGRAM, IN A SANDBOX (cutbox-door.mjs). By AI agents, Wed Nov 11 2026. No macro, syntax, notation, axiom, sorry.
-/
import Derived.Test.YtmlfecgppnffgaaDoorRows
import GoSem.ClaimSeven
namespace Go.Proofs.YtmlfecgppnffgaaDoor
namespace Rows

/-- THE TIED CARD OF 'laws.FnMain'. -/
def fnMainCard : Claim7 := { stood := { row := fnMainRow, standIns := [], harness := (true, "676ccbd08afaad1a4b9c22aa135d64bd53218ea77abadcd9b8b5140ec897858c"), looks := false }, kinds := [], alts := [], laidByText := true, laidKinds := [.data, .pinned], laidTests := true, laidLooks := .later }
def FnMainCardSaid : Prop := Claim7.holds Tryd.pinned (.plain (OpenSpec.ofChange fnMainSpec)) fnMainCard

/-- THE TIED CARD OF 'laws.FnMainBack'. -/
def fnMainBackCard : Claim7 := { stood := { row := fnMainBackRow, standIns := [], harness := (true, "676ccbd08afaad1a4b9c22aa135d64bd53218ea77abadcd9b8b5140ec897858c"), looks := false }, kinds := [], alts := [], laidByText := true, laidKinds := [.data, .pinned], laidTests := true, laidLooks := .later }
def FnMainBackCardSaid : Prop := Claim7.holds Tryd.pinned (.plain (OpenSpec.ofChange fnMainBackSpec)) fnMainBackCard

/-- THE TIED CARD OF 'laws.FnMainLeast'. -/
def fnMainLeastCard : Claim7 := { stood := { row := fnMainLeastRow, standIns := [], harness := (true, "676ccbd08afaad1a4b9c22aa135d64bd53218ea77abadcd9b8b5140ec897858c"), looks := false }, kinds := [], alts := [], laidByText := true, laidKinds := [.data, .pinned], laidTests := true, laidLooks := .later }
def FnMainLeastCardSaid : Prop := Claim7.holds Tryd.pinned (.plain (OpenSpec.ofChange fnMainLeastSpec)) fnMainLeastCard

/-- THE TIED CARD OF 'laws.FnMainMerged'. -/
def fnMainMergedCard : Claim7 := { stood := { row := fnMainMergedRow, standIns := [], harness := (true, "676ccbd08afaad1a4b9c22aa135d64bd53218ea77abadcd9b8b5140ec897858c"), looks := false }, kinds := [], alts := [], laidByText := true, laidKinds := [.data, .pinned], laidTests := true, laidLooks := .later }
def FnMainMergedCardSaid : Prop := Claim7.holds Tryd.pinned (.plain (OpenSpec.ofChange fnMainMergedSpec)) fnMainMergedCard

/-- THE TIED CARD OF 'laws.FnMainSame'. -/
def fnMainSameCard : Claim7 := { stood := { row := fnMainSameRow, standIns := [], harness := (true, "676ccbd08afaad1a4b9c22aa135d64bd53218ea77abadcd9b8b5140ec897858c"), looks := false }, kinds := [], alts := [], laidByText := true, laidKinds := [.data, .pinned], laidTests := true, laidLooks := .later }
def FnMainSameCardSaid : Prop := Claim7.holds Tryd.pinned (.plain (OpenSpec.ofChange fnMainSameSpec)) fnMainSameCard

/-- THE TIED CARD OF 'laws.FnMainWithin'. -/
def fnMainWithinCard : Claim7 := { stood := { row := fnMainWithinRow, standIns := [], harness := (true, "676ccbd08afaad1a4b9c22aa135d64bd53218ea77abadcd9b8b5140ec897858c"), looks := false }, kinds := [], alts := [], laidByText := true, laidKinds := [.data, .pinned], laidTests := true, laidLooks := .later }
def FnMainWithinCardSaid : Prop := Claim7.holds Tryd.pinned (.plain (OpenSpec.ofChange fnMainWithinSpec)) fnMainWithinCard

/-- THE TIED CARD OF 'laws.FnMainFast'. -/
def fnMainFastCard : Claim7 := { stood := { row := fnMainFastRow, standIns := [], harness := (true, "676ccbd08afaad1a4b9c22aa135d64bd53218ea77abadcd9b8b5140ec897858c"), looks := false }, kinds := [], alts := [], laidByText := true, laidKinds := [.data, .pinned], laidTests := true, laidLooks := .later }
def FnMainFastCardSaid : Prop := Claim7.holds Tryd.pinned (.plain (OpenSpec.ofChange fnMainFastSpec)) fnMainFastCard

/-- THE TIED CARD OF 'laws.FnMainRunes'. -/
def fnMainRunesCard : Claim7 := { stood := { row := fnMainRunesRow, standIns := [], harness := (true, "676ccbd08afaad1a4b9c22aa135d64bd53218ea77abadcd9b8b5140ec897858c"), looks := false }, kinds := [], alts := [], laidByText := true, laidKinds := [.data, .pinned], laidTests := true, laidLooks := .later }
def FnMainRunesCardSaid : Prop := Claim7.holds Tryd.pinned (.plain (OpenSpec.ofChange fnMainRunesSpec)) fnMainRunesCard

/-- THE TIED CARD OF 'laws.FnBisect'. -/
def fnBisectCard : Claim7 := { stood := { row := fnBisectRow, standIns := [], harness := (true, "676ccbd08afaad1a4b9c22aa135d64bd53218ea77abadcd9b8b5140ec897858c"), looks := false }, kinds := [], alts := [], laidByText := true, laidKinds := [.data, .pinned], laidTests := true, laidLooks := .later }
def FnBisectCardSaid : Prop := Claim7.holds Tryd.pinned (.plain (OpenSpec.ofChange fnBisectSpec)) fnBisectCard

/-- THE TIED CARD OF 'laws.FnLinesBack'. -/
def fnLinesBackCard : Claim7 := { stood := { row := fnLinesBackRow, standIns := [], harness := (true, "676ccbd08afaad1a4b9c22aa135d64bd53218ea77abadcd9b8b5140ec897858c"), looks := false }, kinds := [], alts := [], laidByText := true, laidKinds := [.data, .pinned], laidTests := true, laidLooks := .later }
def FnLinesBackCardSaid : Prop := Claim7.holds Tryd.pinned (.plain (OpenSpec.ofChange fnLinesBackSpec)) fnLinesBackCard

/-- THE TIED CARD OF 'laws.FnMainDistance'. -/
def fnMainDistanceCard : Claim7 := { stood := { row := fnMainDistanceRow, standIns := [], harness := (true, "676ccbd08afaad1a4b9c22aa135d64bd53218ea77abadcd9b8b5140ec897858c"), looks := false }, kinds := [], alts := [], laidByText := true, laidKinds := [.data, .pinned], laidTests := true, laidLooks := .later }
def FnMainDistanceCardSaid : Prop := Claim7.holds Tryd.pinned (.plain (OpenSpec.ofChange fnMainDistanceSpec)) fnMainDistanceCard

/-- THE TIED CARD OF 'laws.FnXIndexMain'. -/
def fnXIndexMainCard : Claim7 := { stood := { row := fnXIndexMainRow, standIns := [], harness := (true, "676ccbd08afaad1a4b9c22aa135d64bd53218ea77abadcd9b8b5140ec897858c"), looks := false }, kinds := [], alts := [], laidByText := true, laidKinds := [.data, .pinned], laidTests := true, laidLooks := .later }
def FnXIndexMainCardSaid : Prop := Claim7.holds Tryd.pinned (.plain (OpenSpec.ofChange fnXIndexMainSpec)) fnXIndexMainCard

/-- THE SECOND FORM's CARD OF 'laws.FnMain'. -/
def fnMainUptoCard : Claim7 := { stood := { row := fnMainUptoRow, standIns := [], harness := (true, "676ccbd08afaad1a4b9c22aa135d64bd53218ea77abadcd9b8b5140ec897858c"), looks := false }, kinds := [], alts := [], laidByText := true, laidKinds := [.data, .pinned], laidTests := true, laidLooks := .later }
def FnMainUptoCardSaid : Prop := Claim7.holds Tryd.pinned (.plain (OpenSpec.upto fnMainSpec)) fnMainUptoCard

/-- THE SECOND FORM's CARD OF 'laws.FnMainBack'. -/
def fnMainBackUptoCard : Claim7 := { stood := { row := fnMainBackUptoRow, standIns := [], harness := (true, "676ccbd08afaad1a4b9c22aa135d64bd53218ea77abadcd9b8b5140ec897858c"), looks := false }, kinds := [], alts := [], laidByText := true, laidKinds := [.data, .pinned], laidTests := true, laidLooks := .later }
def FnMainBackUptoCardSaid : Prop := Claim7.holds Tryd.pinned (.plain (OpenSpec.upto fnMainBackSpec)) fnMainBackUptoCard

/-- THE SECOND FORM's CARD OF 'laws.FnMainLeast'. -/
def fnMainLeastUptoCard : Claim7 := { stood := { row := fnMainLeastUptoRow, standIns := [], harness := (true, "676ccbd08afaad1a4b9c22aa135d64bd53218ea77abadcd9b8b5140ec897858c"), looks := false }, kinds := [], alts := [], laidByText := true, laidKinds := [.data, .pinned], laidTests := true, laidLooks := .later }
def FnMainLeastUptoCardSaid : Prop := Claim7.holds Tryd.pinned (.plain (OpenSpec.upto fnMainLeastSpec)) fnMainLeastUptoCard

/-- THE SECOND FORM's CARD OF 'laws.FnMainMerged'. -/
def fnMainMergedUptoCard : Claim7 := { stood := { row := fnMainMergedUptoRow, standIns := [], harness := (true, "676ccbd08afaad1a4b9c22aa135d64bd53218ea77abadcd9b8b5140ec897858c"), looks := false }, kinds := [], alts := [], laidByText := true, laidKinds := [.data, .pinned], laidTests := true, laidLooks := .later }
def FnMainMergedUptoCardSaid : Prop := Claim7.holds Tryd.pinned (.plain (OpenSpec.upto fnMainMergedSpec)) fnMainMergedUptoCard

/-- THE SECOND FORM's CARD OF 'laws.FnMainSame'. -/
def fnMainSameUptoCard : Claim7 := { stood := { row := fnMainSameUptoRow, standIns := [], harness := (true, "676ccbd08afaad1a4b9c22aa135d64bd53218ea77abadcd9b8b5140ec897858c"), looks := false }, kinds := [], alts := [], laidByText := true, laidKinds := [.data, .pinned], laidTests := true, laidLooks := .later }
def FnMainSameUptoCardSaid : Prop := Claim7.holds Tryd.pinned (.plain (OpenSpec.upto fnMainSameSpec)) fnMainSameUptoCard

/-- THE SECOND FORM's CARD OF 'laws.FnMainWithin'. -/
def fnMainWithinUptoCard : Claim7 := { stood := { row := fnMainWithinUptoRow, standIns := [], harness := (true, "676ccbd08afaad1a4b9c22aa135d64bd53218ea77abadcd9b8b5140ec897858c"), looks := false }, kinds := [], alts := [], laidByText := true, laidKinds := [.data, .pinned], laidTests := true, laidLooks := .later }
def FnMainWithinUptoCardSaid : Prop := Claim7.holds Tryd.pinned (.plain (OpenSpec.upto fnMainWithinSpec)) fnMainWithinUptoCard

/-- THE SECOND FORM's CARD OF 'laws.FnMainFast'. -/
def fnMainFastUptoCard : Claim7 := { stood := { row := fnMainFastUptoRow, standIns := [], harness := (true, "676ccbd08afaad1a4b9c22aa135d64bd53218ea77abadcd9b8b5140ec897858c"), looks := false }, kinds := [], alts := [], laidByText := true, laidKinds := [.data, .pinned], laidTests := true, laidLooks := .later }
def FnMainFastUptoCardSaid : Prop := Claim7.holds Tryd.pinned (.plain (OpenSpec.upto fnMainFastSpec)) fnMainFastUptoCard

/-- THE SECOND FORM's CARD OF 'laws.FnMainRunes'. -/
def fnMainRunesUptoCard : Claim7 := { stood := { row := fnMainRunesUptoRow, standIns := [], harness := (true, "676ccbd08afaad1a4b9c22aa135d64bd53218ea77abadcd9b8b5140ec897858c"), looks := false }, kinds := [], alts := [], laidByText := true, laidKinds := [.data, .pinned], laidTests := true, laidLooks := .later }
def FnMainRunesUptoCardSaid : Prop := Claim7.holds Tryd.pinned (.plain (OpenSpec.upto fnMainRunesSpec)) fnMainRunesUptoCard

/-- THE SECOND FORM's CARD OF 'laws.FnBisect'. -/
def fnBisectUptoCard : Claim7 := { stood := { row := fnBisectUptoRow, standIns := [], harness := (true, "676ccbd08afaad1a4b9c22aa135d64bd53218ea77abadcd9b8b5140ec897858c"), looks := false }, kinds := [], alts := [], laidByText := true, laidKinds := [.data, .pinned], laidTests := true, laidLooks := .later }
def FnBisectUptoCardSaid : Prop := Claim7.holds Tryd.pinned (.plain (OpenSpec.upto fnBisectSpec)) fnBisectUptoCard

/-- THE SECOND FORM's CARD OF 'laws.FnLinesBack'. -/
def fnLinesBackUptoCard : Claim7 := { stood := { row := fnLinesBackUptoRow, standIns := [], harness := (true, "676ccbd08afaad1a4b9c22aa135d64bd53218ea77abadcd9b8b5140ec897858c"), looks := false }, kinds := [], alts := [], laidByText := true, laidKinds := [.data, .pinned], laidTests := true, laidLooks := .later }
def FnLinesBackUptoCardSaid : Prop := Claim7.holds Tryd.pinned (.plain (OpenSpec.upto fnLinesBackSpec)) fnLinesBackUptoCard

/-- THE SECOND FORM's CARD OF 'laws.FnMainDistance'. -/
def fnMainDistanceUptoCard : Claim7 := { stood := { row := fnMainDistanceUptoRow, standIns := [], harness := (true, "676ccbd08afaad1a4b9c22aa135d64bd53218ea77abadcd9b8b5140ec897858c"), looks := false }, kinds := [], alts := [], laidByText := true, laidKinds := [.data, .pinned], laidTests := true, laidLooks := .later }
def FnMainDistanceUptoCardSaid : Prop := Claim7.holds Tryd.pinned (.plain (OpenSpec.upto fnMainDistanceSpec)) fnMainDistanceUptoCard

/-- THE SECOND FORM's CARD OF 'laws.FnXIndexMain'. -/
def fnXIndexMainUptoCard : Claim7 := { stood := { row := fnXIndexMainUptoRow, standIns := [], harness := (true, "676ccbd08afaad1a4b9c22aa135d64bd53218ea77abadcd9b8b5140ec897858c"), looks := false }, kinds := [], alts := [], laidByText := true, laidKinds := [.data, .pinned], laidTests := true, laidLooks := .later }
def FnXIndexMainUptoCardSaid : Prop := Claim7.holds Tryd.pinned (.plain (OpenSpec.upto fnXIndexMainSpec)) fnXIndexMainUptoCard
end Rows
end Go.Proofs.YtmlfecgppnffgaaDoor
