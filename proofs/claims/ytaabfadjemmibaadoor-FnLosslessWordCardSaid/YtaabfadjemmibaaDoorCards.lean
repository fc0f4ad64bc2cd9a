/-
  DERIVED. GIVEN WITH THE SEED: THE CARDS: each row of YtaabfadjemmibaaDoorRows.lean that lists a variable, with what it lists TIED to the program's text (the seventh form; the later family's looks); each row that meets fmt, with fmt's text TOLD by the authors' own Lean function (tested against real Go, not proved from fmt's source: count such statements apart). THE CARD IS WHAT COUNTS. Prove the row's statement (the work); the ties are given (YtaabfadjemmibaaDoorTie.lean); close each card by the builder's one call (the guide's Derived/Test/ToyasCard.lean, 'card_holds'). Laid BY PROGRAM, IN A SANDBOX (cutbox-door.mjs). By AI agents, Wed Nov 11 2026. No macro, syntax, notation, axiom, sorry.
-/
import Derived.Test.YtaabfadjemmibaaDoorRows
import GoSem.ClaimSeven
namespace Go.Proofs.YtaabfadjemmibaaDoor
namespace Rows

/-- THE TIED CARD OF 'laws.FnLosslessFew'. -/
def fnLosslessFewCard : Claim7 := { stood := { row := fnLosslessFewRow, standIns := [], harness := (true, "88ce7bd55ca468a8333ddb7189e8aa5d6db4762228da8b3a63df5b4a860e2d20"), looks := false }, kinds := [], alts := [], laidByText := true, laidKinds := [.data, .pinned], laidTests := true, laidLooks := .later }
def FnLosslessFewCardSaid : Prop := Claim7.holds Tryd.pinned (.plain (OpenSpec.ofChange fnLosslessFewSpec)) fnLosslessFewCard

/-- THE TIED CARD OF 'laws.FnLosslessKeeps'. -/
def fnLosslessKeepsCard : Claim7 := { stood := { row := fnLosslessKeepsRow, standIns := [], harness := (true, "88ce7bd55ca468a8333ddb7189e8aa5d6db4762228da8b3a63df5b4a860e2d20"), looks := false }, kinds := [], alts := [], laidByText := true, laidKinds := [.data, .pinned], laidTests := true, laidLooks := .later }
def FnLosslessKeepsCardSaid : Prop := Claim7.holds Tryd.pinned (.plain (OpenSpec.ofChange fnLosslessKeepsSpec)) fnLosslessKeepsCard

/-- THE TIED CARD OF 'laws.FnLosslessWord'. -/
def fnLosslessWordCard : Claim7 := { stood := { row := fnLosslessWordRow, standIns := [], harness := (true, "88ce7bd55ca468a8333ddb7189e8aa5d6db4762228da8b3a63df5b4a860e2d20"), looks := false }, kinds := [], alts := [], laidByText := true, laidKinds := [.data, .pinned], laidTests := true, laidLooks := .later }
def FnLosslessWordCardSaid : Prop := Claim7.holds Tryd.pinned (.plain (OpenSpec.ofChange fnLosslessWordSpec)) fnLosslessWordCard

/-- THE TIED CARD OF 'laws.FnMergeAgain'. -/
def fnMergeAgainCard : Claim7 := { stood := { row := fnMergeAgainRow, standIns := [], harness := (true, "88ce7bd55ca468a8333ddb7189e8aa5d6db4762228da8b3a63df5b4a860e2d20"), looks := false }, kinds := [], alts := [], laidByText := true, laidKinds := [.data, .pinned], laidTests := true, laidLooks := .later }
def FnMergeAgainCardSaid : Prop := Claim7.holds Tryd.pinned (.plain (OpenSpec.ofChange fnMergeAgainSpec)) fnMergeAgainCard

/-- THE TIED CARD OF 'laws.FnMergeForm'. -/
def fnMergeFormCard : Claim7 := { stood := { row := fnMergeFormRow, standIns := [], harness := (true, "88ce7bd55ca468a8333ddb7189e8aa5d6db4762228da8b3a63df5b4a860e2d20"), looks := false }, kinds := [], alts := [], laidByText := true, laidKinds := [.data, .pinned], laidTests := true, laidLooks := .later }
def FnMergeFormCardSaid : Prop := Claim7.holds Tryd.pinned (.plain (OpenSpec.ofChange fnMergeFormSpec)) fnMergeFormCard

/-- THE TIED CARD OF 'laws.FnMergeKeeps'. -/
def fnMergeKeepsCard : Claim7 := { stood := { row := fnMergeKeepsRow, standIns := [], harness := (true, "88ce7bd55ca468a8333ddb7189e8aa5d6db4762228da8b3a63df5b4a860e2d20"), looks := false }, kinds := [], alts := [], laidByText := true, laidKinds := [.data, .pinned], laidTests := true, laidLooks := .later }
def FnMergeKeepsCardSaid : Prop := Claim7.holds Tryd.pinned (.plain (OpenSpec.ofChange fnMergeKeepsSpec)) fnMergeKeepsCard

/-- THE TIED CARD OF 'laws.FnMergeLess'. -/
def fnMergeLessCard : Claim7 := { stood := { row := fnMergeLessRow, standIns := [], harness := (true, "88ce7bd55ca468a8333ddb7189e8aa5d6db4762228da8b3a63df5b4a860e2d20"), looks := false }, kinds := [], alts := [], laidByText := true, laidKinds := [.data, .pinned], laidTests := true, laidLooks := .later }
def FnMergeLessCardSaid : Prop := Claim7.holds Tryd.pinned (.plain (OpenSpec.ofChange fnMergeLessSpec)) fnMergeLessCard

/-- THE TIED CARD OF 'laws.FnMergeOrder'. -/
def fnMergeOrderCard : Claim7 := { stood := { row := fnMergeOrderRow, standIns := [], harness := (true, "88ce7bd55ca468a8333ddb7189e8aa5d6db4762228da8b3a63df5b4a860e2d20"), looks := false }, kinds := [], alts := [], laidByText := true, laidKinds := [.data, .pinned], laidTests := true, laidLooks := .later }
def FnMergeOrderCardSaid : Prop := Claim7.holds Tryd.pinned (.plain (OpenSpec.ofChange fnMergeOrderSpec)) fnMergeOrderCard

/-- THE TIED CARD OF 'laws.FnEfficiencyKeeps'. -/
def fnEfficiencyKeepsCard : Claim7 := { stood := { row := fnEfficiencyKeepsRow, standIns := [], harness := (true, "88ce7bd55ca468a8333ddb7189e8aa5d6db4762228da8b3a63df5b4a860e2d20"), looks := false }, kinds := [], alts := [], laidByText := true, laidKinds := [.data, .pinned], laidTests := true, laidLooks := .later }
def FnEfficiencyKeepsCardSaid : Prop := Claim7.holds Tryd.pinned (.plain (OpenSpec.ofChange fnEfficiencyKeepsSpec)) fnEfficiencyKeepsCard

/-- THE TIED CARD OF 'laws.FnEfficiencyFewer'. -/
def fnEfficiencyFewerCard : Claim7 := { stood := { row := fnEfficiencyFewerRow, standIns := [], harness := (true, "88ce7bd55ca468a8333ddb7189e8aa5d6db4762228da8b3a63df5b4a860e2d20"), looks := false }, kinds := [], alts := [], laidByText := true, laidKinds := [.data, .pinned], laidTests := true, laidLooks := .later }
def FnEfficiencyFewerCardSaid : Prop := Claim7.holds Tryd.pinned (.plain (OpenSpec.ofChange fnEfficiencyFewerSpec)) fnEfficiencyFewerCard

/-- THE TIED CARD OF 'laws.FnSemanticKeeps'. -/
def fnSemanticKeepsCard : Claim7 := { stood := { row := fnSemanticKeepsRow, standIns := [], harness := (true, "88ce7bd55ca468a8333ddb7189e8aa5d6db4762228da8b3a63df5b4a860e2d20"), looks := false }, kinds := [], alts := [], laidByText := true, laidKinds := [.data, .pinned], laidTests := true, laidLooks := .later }
def FnSemanticKeepsCardSaid : Prop := Claim7.holds Tryd.pinned (.plain (OpenSpec.ofChange fnSemanticKeepsSpec)) fnSemanticKeepsCard

/-- THE TIED CARD OF 'laws.FnSemanticFewer'. -/
def fnSemanticFewerCard : Claim7 := { stood := { row := fnSemanticFewerRow, standIns := [], harness := (true, "88ce7bd55ca468a8333ddb7189e8aa5d6db4762228da8b3a63df5b4a860e2d20"), looks := false }, kinds := [], alts := [], laidByText := true, laidKinds := [.data, .pinned], laidTests := true, laidLooks := .later }
def FnSemanticFewerCardSaid : Prop := Claim7.holds Tryd.pinned (.plain (OpenSpec.ofChange fnSemanticFewerSpec)) fnSemanticFewerCard

/-- THE TIED CARD OF 'laws.FnSemanticOne'. -/
def fnSemanticOneCard : Claim7 := { stood := { row := fnSemanticOneRow, standIns := [], harness := (true, "88ce7bd55ca468a8333ddb7189e8aa5d6db4762228da8b3a63df5b4a860e2d20"), looks := false }, kinds := [], alts := [], laidByText := true, laidKinds := [.data, .pinned], laidTests := true, laidLooks := .later }
def FnSemanticOneCardSaid : Prop := Claim7.holds Tryd.pinned (.plain (OpenSpec.ofChange fnSemanticOneSpec)) fnSemanticOneCard

/-- THE SECOND FORM's CARD OF 'laws.FnLosslessFew'. -/
def fnLosslessFewUptoCard : Claim7 := { stood := { row := fnLosslessFewUptoRow, standIns := [], harness := (true, "88ce7bd55ca468a8333ddb7189e8aa5d6db4762228da8b3a63df5b4a860e2d20"), looks := false }, kinds := [], alts := [], laidByText := true, laidKinds := [.data, .pinned], laidTests := true, laidLooks := .later }
def FnLosslessFewUptoCardSaid : Prop := Claim7.holds Tryd.pinned (.plain (OpenSpec.upto fnLosslessFewSpec)) fnLosslessFewUptoCard

/-- THE SECOND FORM's CARD OF 'laws.FnLosslessKeeps'. -/
def fnLosslessKeepsUptoCard : Claim7 := { stood := { row := fnLosslessKeepsUptoRow, standIns := [], harness := (true, "88ce7bd55ca468a8333ddb7189e8aa5d6db4762228da8b3a63df5b4a860e2d20"), looks := false }, kinds := [], alts := [], laidByText := true, laidKinds := [.data, .pinned], laidTests := true, laidLooks := .later }
def FnLosslessKeepsUptoCardSaid : Prop := Claim7.holds Tryd.pinned (.plain (OpenSpec.upto fnLosslessKeepsSpec)) fnLosslessKeepsUptoCard

/-- THE SECOND FORM's CARD OF 'laws.FnLosslessWord'. -/
def fnLosslessWordUptoCard : Claim7 := { stood := { row := fnLosslessWordUptoRow, standIns := [], harness := (true, "88ce7bd55ca468a8333ddb7189e8aa5d6db4762228da8b3a63df5b4a860e2d20"), looks := false }, kinds := [], alts := [], laidByText := true, laidKinds := [.data, .pinned], laidTests := true, laidLooks := .later }
def FnLosslessWordUptoCardSaid : Prop := Claim7.holds Tryd.pinned (.plain (OpenSpec.upto fnLosslessWordSpec)) fnLosslessWordUptoCard

/-- THE SECOND FORM's CARD OF 'laws.FnMergeAgain'. -/
def fnMergeAgainUptoCard : Claim7 := { stood := { row := fnMergeAgainUptoRow, standIns := [], harness := (true, "88ce7bd55ca468a8333ddb7189e8aa5d6db4762228da8b3a63df5b4a860e2d20"), looks := false }, kinds := [], alts := [], laidByText := true, laidKinds := [.data, .pinned], laidTests := true, laidLooks := .later }
def FnMergeAgainUptoCardSaid : Prop := Claim7.holds Tryd.pinned (.plain (OpenSpec.upto fnMergeAgainSpec)) fnMergeAgainUptoCard

/-- THE SECOND FORM's CARD OF 'laws.FnMergeForm'. -/
def fnMergeFormUptoCard : Claim7 := { stood := { row := fnMergeFormUptoRow, standIns := [], harness := (true, "88ce7bd55ca468a8333ddb7189e8aa5d6db4762228da8b3a63df5b4a860e2d20"), looks := false }, kinds := [], alts := [], laidByText := true, laidKinds := [.data, .pinned], laidTests := true, laidLooks := .later }
def FnMergeFormUptoCardSaid : Prop := Claim7.holds Tryd.pinned (.plain (OpenSpec.upto fnMergeFormSpec)) fnMergeFormUptoCard

/-- THE SECOND FORM's CARD OF 'laws.FnMergeKeeps'. -/
def fnMergeKeepsUptoCard : Claim7 := { stood := { row := fnMergeKeepsUptoRow, standIns := [], harness := (true, "88ce7bd55ca468a8333ddb7189e8aa5d6db4762228da8b3a63df5b4a860e2d20"), looks := false }, kinds := [], alts := [], laidByText := true, laidKinds := [.data, .pinned], laidTests := true, laidLooks := .later }
def FnMergeKeepsUptoCardSaid : Prop := Claim7.holds Tryd.pinned (.plain (OpenSpec.upto fnMergeKeepsSpec)) fnMergeKeepsUptoCard

/-- THE SECOND FORM's CARD OF 'laws.FnMergeLess'. -/
def fnMergeLessUptoCard : Claim7 := { stood := { row := fnMergeLessUptoRow, standIns := [], harness := (true, "88ce7bd55ca468a8333ddb7189e8aa5d6db4762228da8b3a63df5b4a860e2d20"), looks := false }, kinds := [], alts := [], laidByText := true, laidKinds := [.data, .pinned], laidTests := true, laidLooks := .later }
def FnMergeLessUptoCardSaid : Prop := Claim7.holds Tryd.pinned (.plain (OpenSpec.upto fnMergeLessSpec)) fnMergeLessUptoCard

/-- THE SECOND FORM's CARD OF 'laws.FnMergeOrder'. -/
def fnMergeOrderUptoCard : Claim7 := { stood := { row := fnMergeOrderUptoRow, standIns := [], harness := (true, "88ce7bd55ca468a8333ddb7189e8aa5d6db4762228da8b3a63df5b4a860e2d20"), looks := false }, kinds := [], alts := [], laidByText := true, laidKinds := [.data, .pinned], laidTests := true, laidLooks := .later }
def FnMergeOrderUptoCardSaid : Prop := Claim7.holds Tryd.pinned (.plain (OpenSpec.upto fnMergeOrderSpec)) fnMergeOrderUptoCard

/-- THE SECOND FORM's CARD OF 'laws.FnEfficiencyKeeps'. -/
def fnEfficiencyKeepsUptoCard : Claim7 := { stood := { row := fnEfficiencyKeepsUptoRow, standIns := [], harness := (true, "88ce7bd55ca468a8333ddb7189e8aa5d6db4762228da8b3a63df5b4a860e2d20"), looks := false }, kinds := [], alts := [], laidByText := true, laidKinds := [.data, .pinned], laidTests := true, laidLooks := .later }
def FnEfficiencyKeepsUptoCardSaid : Prop := Claim7.holds Tryd.pinned (.plain (OpenSpec.upto fnEfficiencyKeepsSpec)) fnEfficiencyKeepsUptoCard

/-- THE SECOND FORM's CARD OF 'laws.FnEfficiencyFewer'. -/
def fnEfficiencyFewerUptoCard : Claim7 := { stood := { row := fnEfficiencyFewerUptoRow, standIns := [], harness := (true, "88ce7bd55ca468a8333ddb7189e8aa5d6db4762228da8b3a63df5b4a860e2d20"), looks := false }, kinds := [], alts := [], laidByText := true, laidKinds := [.data, .pinned], laidTests := true, laidLooks := .later }
def FnEfficiencyFewerUptoCardSaid : Prop := Claim7.holds Tryd.pinned (.plain (OpenSpec.upto fnEfficiencyFewerSpec)) fnEfficiencyFewerUptoCard

/-- THE SECOND FORM's CARD OF 'laws.FnSemanticKeeps'. -/
def fnSemanticKeepsUptoCard : Claim7 := { stood := { row := fnSemanticKeepsUptoRow, standIns := [], harness := (true, "88ce7bd55ca468a8333ddb7189e8aa5d6db4762228da8b3a63df5b4a860e2d20"), looks := false }, kinds := [], alts := [], laidByText := true, laidKinds := [.data, .pinned], laidTests := true, laidLooks := .later }
def FnSemanticKeepsUptoCardSaid : Prop := Claim7.holds Tryd.pinned (.plain (OpenSpec.upto fnSemanticKeepsSpec)) fnSemanticKeepsUptoCard

/-- THE SECOND FORM's CARD OF 'laws.FnSemanticFewer'. -/
def fnSemanticFewerUptoCard : Claim7 := { stood := { row := fnSemanticFewerUptoRow, standIns := [], harness := (true, "88ce7bd55ca468a8333ddb7189e8aa5d6db4762228da8b3a63df5b4a860e2d20"), looks := false }, kinds := [], alts := [], laidByText := true, laidKinds := [.data, .pinned], laidTests := true, laidLooks := .later }
def FnSemanticFewerUptoCardSaid : Prop := Claim7.holds Tryd.pinned (.plain (OpenSpec.upto fnSemanticFewerSpec)) fnSemanticFewerUptoCard

/-- THE SECOND FORM's CARD OF 'laws.FnSemanticOne'. -/
def fnSemanticOneUptoCard : Claim7 := { stood := { row := fnSemanticOneUptoRow, standIns := [], harness := (true, "88ce7bd55ca468a8333ddb7189e8aa5d6db4762228da8b3a63df5b4a860e2d20"), looks := false }, kinds := [], alts := [], laidByText := true, laidKinds := [.data, .pinned], laidTests := true, laidLooks := .later }
def FnSemanticOneUptoCardSaid : Prop := Claim7.holds Tryd.pinned (.plain (OpenSpec.upto fnSemanticOneSpec)) fnSemanticOneUptoCard
end Rows
end Go.Proofs.YtaabfadjemmibaaDoor
