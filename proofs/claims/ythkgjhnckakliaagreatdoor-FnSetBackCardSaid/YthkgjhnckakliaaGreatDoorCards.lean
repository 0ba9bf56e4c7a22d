/-
  DERIVED. GIVEN WITH THE SEED: THE CARDS: each row of YthkgjhnckakliaaGreatDoorRows.lean that lists a variable, with what it lists TIED to the program's text (the seventh form; the later family's looks); each row that meets fmt, with fmt's text TOLD by the authors' own Lean function (tested against real Go, not proved from fmt's source: count such statements apart). THE CARD IS WHAT COUNTS. Prove the row's statement (the work); the ties are given (YthkgjhnckakliaaGreatDoorTie.lean); close each card by the builder's one call (the guide's Derived/Test/ToyasCard.lean, 'card_holds'). Laid BY PROGRAM, IN A SANDBOX (cutbox-door.mjs). By AI agents, Wed Nov 11 2026. No macro, syntax, notation, axiom, sorry.
-/
import Derived.Test.YthkgjhnckakliaaGreatDoorRows
import GoSem.ClaimSeven
namespace Go.Proofs.YthkgjhnckakliaaGreatDoor
namespace Rows

/-- THE TIED CARD OF 'laws.FnSetBack'. -/
def fnSetBackCard : Claim7 := { stood := { row := fnSetBackRow, standIns := [], harness := (true, "fd205f5d1e42fc306e6fddb62744eb7e1a2e7066b099605b5993da833458146a"), looks := true }, kinds := [], alts := [], laidByText := true, laidKinds := [.data, .data, .data, .data, .data, .data, .sentinel, .sentinel, .listed, .data, .data, .data, .data, .data, .data, .data, .data, .pinned, .pinned], laidTests := true, laidLooks := .later }
def FnSetBackCardSaid : Prop := Claim7.holds Tryz.pinned (.plain (OpenSpec.ofChange fnSetBackSpec)) fnSetBackCard

/-- THE TIED CARD OF 'laws.FnSetRead'. -/
def fnSetReadCard : Claim7 := { stood := { row := fnSetReadRow, standIns := [], harness := (true, "fd205f5d1e42fc306e6fddb62744eb7e1a2e7066b099605b5993da833458146a"), looks := true }, kinds := [], alts := [], laidByText := true, laidKinds := [.data, .data, .data, .data, .data, .data, .sentinel, .sentinel, .listed, .data, .data, .data, .data, .data, .data, .data, .data, .pinned, .pinned], laidTests := true, laidLooks := .later }
def FnSetReadCardSaid : Prop := Claim7.holds Tryz.pinned (.plain (OpenSpec.ofChange fnSetReadSpec)) fnSetReadCard

/-- THE TIED CARD OF 'laws.FnWholeExcept'. -/
def fnWholeExceptCard : Claim7 := { stood := { row := fnWholeExceptRow, standIns := [], harness := (true, "fd205f5d1e42fc306e6fddb62744eb7e1a2e7066b099605b5993da833458146a"), looks := true }, kinds := [], alts := [], laidByText := true, laidKinds := [.data, .data, .data, .data, .sentinel, .sentinel, .listed, .data, .data, .data, .data, .data, .data, .data, .data, .pinned, .pinned], laidTests := true, laidLooks := .later }
def FnWholeExceptCardSaid : Prop := Claim7.holds Tryz.pinned (.plain (OpenSpec.ofChange fnWholeExceptSpec)) fnWholeExceptCard

/-- THE TIED CARD OF 'laws.FnSetAny'. -/
def fnSetAnyCard : Claim7 := { stood := { row := fnSetAnyRow, standIns := [], harness := (true, "fd205f5d1e42fc306e6fddb62744eb7e1a2e7066b099605b5993da833458146a"), looks := true }, kinds := [], alts := [], laidByText := true, laidKinds := [.data, .data, .data, .data, .data, .data, .sentinel, .sentinel, .listed, .data, .data, .data, .data, .data, .data, .data, .data, .pinned, .pinned], laidTests := true, laidLooks := .later }
def FnSetAnyCardSaid : Prop := Claim7.holds Tryz.pinned (.plain (OpenSpec.ofChange fnSetAnySpec)) fnSetAnyCard

/-- THE SECOND FORM's CARD OF 'laws.FnSetBack'. -/
def fnSetBackUptoCard : Claim7 := { stood := { row := fnSetBackUptoRow, standIns := [], harness := (true, "fd205f5d1e42fc306e6fddb62744eb7e1a2e7066b099605b5993da833458146a"), looks := true }, kinds := [], alts := [], laidByText := true, laidKinds := [.data, .data, .data, .data, .data, .data, .sentinel, .sentinel, .listed, .data, .data, .data, .data, .data, .data, .data, .data, .pinned, .pinned], laidTests := true, laidLooks := .later }
def FnSetBackUptoCardSaid : Prop := Claim7.holds Tryz.pinned (.plain (OpenSpec.upto fnSetBackSpec)) fnSetBackUptoCard

/-- THE SECOND FORM's CARD OF 'laws.FnSetRead'. -/
def fnSetReadUptoCard : Claim7 := { stood := { row := fnSetReadUptoRow, standIns := [], harness := (true, "fd205f5d1e42fc306e6fddb62744eb7e1a2e7066b099605b5993da833458146a"), looks := true }, kinds := [], alts := [], laidByText := true, laidKinds := [.data, .data, .data, .data, .data, .data, .sentinel, .sentinel, .listed, .data, .data, .data, .data, .data, .data, .data, .data, .pinned, .pinned], laidTests := true, laidLooks := .later }
def FnSetReadUptoCardSaid : Prop := Claim7.holds Tryz.pinned (.plain (OpenSpec.upto fnSetReadSpec)) fnSetReadUptoCard

/-- THE SECOND FORM's CARD OF 'laws.FnWholeExcept'. -/
def fnWholeExceptUptoCard : Claim7 := { stood := { row := fnWholeExceptUptoRow, standIns := [], harness := (true, "fd205f5d1e42fc306e6fddb62744eb7e1a2e7066b099605b5993da833458146a"), looks := true }, kinds := [], alts := [], laidByText := true, laidKinds := [.data, .data, .data, .data, .sentinel, .sentinel, .listed, .data, .data, .data, .data, .data, .data, .data, .data, .pinned, .pinned], laidTests := true, laidLooks := .later }
def FnWholeExceptUptoCardSaid : Prop := Claim7.holds Tryz.pinned (.plain (OpenSpec.upto fnWholeExceptSpec)) fnWholeExceptUptoCard

/-- THE SECOND FORM's CARD OF 'laws.FnSetAny'. -/
def fnSetAnyUptoCard : Claim7 := { stood := { row := fnSetAnyUptoRow, standIns := [], harness := (true, "fd205f5d1e42fc306e6fddb62744eb7e1a2e7066b099605b5993da833458146a"), looks := true }, kinds := [], alts := [], laidByText := true, laidKinds := [.data, .data, .data, .data, .data, .data, .sentinel, .sentinel, .listed, .data, .data, .data, .data, .data, .data, .data, .data, .pinned, .pinned], laidTests := true, laidLooks := .later }
def FnSetAnyUptoCardSaid : Prop := Claim7.holds Tryz.pinned (.plain (OpenSpec.upto fnSetAnySpec)) fnSetAnyUptoCard
end Rows
end Go.Proofs.YthkgjhnckakliaaGreatDoor
