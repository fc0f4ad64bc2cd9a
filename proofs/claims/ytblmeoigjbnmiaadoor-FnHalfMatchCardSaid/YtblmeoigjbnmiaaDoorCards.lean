/-
  DERIVED. GIVEN WITH THE SEED: THE CARDS: each row of YtblmeoigjbnmiaaDoorRows.lean that lists a variable, with what it lists TIED to the program's text (the seventh form; the later family's looks); each row that meets fmt, with fmt's text TOLD by the authors' own Lean function (tested against real Go, not proved from fmt's source: count such statements apart). THE CARD IS WHAT COUNTS. Prove the row's statement (the work); the ties are given (YtblmeoigjbnmiaaDoorTie.lean); close each card by the builder's one call (the guide's Derived/Test/ToyasCard.lean, 'card_holds'). Laid BY PROGRAM, IN A SANDBOX (cutbox-door.mjs). By AI agents, Wed Nov 11 2026. No macro, syntax, notation, axiom, sorry.
-/
import Derived.Test.YtblmeoigjbnmiaaDoorRows
import GoSem.ClaimSeven
namespace Go.Proofs.YtblmeoigjbnmiaaDoor
namespace Rows

/-- THE TIED CARD OF 'laws.FnHalfMatch'. -/
def fnHalfMatchCard : Claim7 := { stood := { row := fnHalfMatchRow, standIns := [], harness := (true, "9f40e1d8d76f46d6348c8f54d5c534467e7a45ae29552a1e3c5e19c3ca2fbd2b"), looks := false }, kinds := [], alts := [], laidByText := true, laidKinds := [.data, .pinned], laidTests := true, laidLooks := .later }
def FnHalfMatchCardSaid : Prop := Claim7.holds Tryd.pinned (.plain (OpenSpec.ofChange fnHalfMatchSpec)) fnHalfMatchCard

/-- THE TIED CARD OF 'laws.FnHalfNone'. -/
def fnHalfNoneCard : Claim7 := { stood := { row := fnHalfNoneRow, standIns := [], harness := (true, "9f40e1d8d76f46d6348c8f54d5c534467e7a45ae29552a1e3c5e19c3ca2fbd2b"), looks := false }, kinds := [], alts := [], laidByText := true, laidKinds := [.data, .pinned], laidTests := true, laidLooks := .later }
def FnHalfNoneCardSaid : Prop := Claim7.holds Tryd.pinned (.plain (OpenSpec.ofChange fnHalfNoneSpec)) fnHalfNoneCard

/-- THE TIED CARD OF 'laws.FnEfficiencyKeeps'. -/
def fnEfficiencyKeepsCard : Claim7 := { stood := { row := fnEfficiencyKeepsRow, standIns := [], harness := (true, "9f40e1d8d76f46d6348c8f54d5c534467e7a45ae29552a1e3c5e19c3ca2fbd2b"), looks := false }, kinds := [], alts := [], laidByText := true, laidKinds := [.data, .pinned], laidTests := true, laidLooks := .later }
def FnEfficiencyKeepsCardSaid : Prop := Claim7.holds Tryd.pinned (.plain (OpenSpec.ofChange fnEfficiencyKeepsSpec)) fnEfficiencyKeepsCard

/-- THE TIED CARD OF 'laws.FnEfficiencyFewer'. -/
def fnEfficiencyFewerCard : Claim7 := { stood := { row := fnEfficiencyFewerRow, standIns := [], harness := (true, "9f40e1d8d76f46d6348c8f54d5c534467e7a45ae29552a1e3c5e19c3ca2fbd2b"), looks := false }, kinds := [], alts := [], laidByText := true, laidKinds := [.data, .pinned], laidTests := true, laidLooks := .later }
def FnEfficiencyFewerCardSaid : Prop := Claim7.holds Tryd.pinned (.plain (OpenSpec.ofChange fnEfficiencyFewerSpec)) fnEfficiencyFewerCard

/-- THE SECOND FORM's CARD OF 'laws.FnHalfMatch'. -/
def fnHalfMatchUptoCard : Claim7 := { stood := { row := fnHalfMatchUptoRow, standIns := [], harness := (true, "9f40e1d8d76f46d6348c8f54d5c534467e7a45ae29552a1e3c5e19c3ca2fbd2b"), looks := false }, kinds := [], alts := [], laidByText := true, laidKinds := [.data, .pinned], laidTests := true, laidLooks := .later }
def FnHalfMatchUptoCardSaid : Prop := Claim7.holds Tryd.pinned (.plain (OpenSpec.upto fnHalfMatchSpec)) fnHalfMatchUptoCard

/-- THE SECOND FORM's CARD OF 'laws.FnHalfNone'. -/
def fnHalfNoneUptoCard : Claim7 := { stood := { row := fnHalfNoneUptoRow, standIns := [], harness := (true, "9f40e1d8d76f46d6348c8f54d5c534467e7a45ae29552a1e3c5e19c3ca2fbd2b"), looks := false }, kinds := [], alts := [], laidByText := true, laidKinds := [.data, .pinned], laidTests := true, laidLooks := .later }
def FnHalfNoneUptoCardSaid : Prop := Claim7.holds Tryd.pinned (.plain (OpenSpec.upto fnHalfNoneSpec)) fnHalfNoneUptoCard

/-- THE SECOND FORM's CARD OF 'laws.FnEfficiencyKeeps'. -/
def fnEfficiencyKeepsUptoCard : Claim7 := { stood := { row := fnEfficiencyKeepsUptoRow, standIns := [], harness := (true, "9f40e1d8d76f46d6348c8f54d5c534467e7a45ae29552a1e3c5e19c3ca2fbd2b"), looks := false }, kinds := [], alts := [], laidByText := true, laidKinds := [.data, .pinned], laidTests := true, laidLooks := .later }
def FnEfficiencyKeepsUptoCardSaid : Prop := Claim7.holds Tryd.pinned (.plain (OpenSpec.upto fnEfficiencyKeepsSpec)) fnEfficiencyKeepsUptoCard

/-- THE SECOND FORM's CARD OF 'laws.FnEfficiencyFewer'. -/
def fnEfficiencyFewerUptoCard : Claim7 := { stood := { row := fnEfficiencyFewerUptoRow, standIns := [], harness := (true, "9f40e1d8d76f46d6348c8f54d5c534467e7a45ae29552a1e3c5e19c3ca2fbd2b"), looks := false }, kinds := [], alts := [], laidByText := true, laidKinds := [.data, .pinned], laidTests := true, laidLooks := .later }
def FnEfficiencyFewerUptoCardSaid : Prop := Claim7.holds Tryd.pinned (.plain (OpenSpec.upto fnEfficiencyFewerSpec)) fnEfficiencyFewerUptoCard
end Rows
end Go.Proofs.YtblmeoigjbnmiaaDoor
