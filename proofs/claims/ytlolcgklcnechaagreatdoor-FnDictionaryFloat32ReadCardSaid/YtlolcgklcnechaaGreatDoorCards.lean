/-
  DERIVED. GIVEN WITH THE SEED: THE CARDS: each row of YtlolcgklcnechaaGreatDoorRows.lean that lists a variable, with what it lists TIED to the program's text (the seventh form; the later family's looks); each row that meets fmt, with fmt's text TOLD by the authors' own Lean function (tested against real Go, not proved from fmt's source: count such statements apart). THE CARD IS WHAT COUNTS. Prove the row's statement (the work); the ties are given (YtlolcgklcnechaaGreatDoorTie.lean); close each card by the builder's one call (the guide's Derived/Test/ToyasCard.lean, 'card_holds'). Laid BY PROGRAM, IN A SANDBOX (cutbox-door.mjs). By AI agents, Wed Nov 11 2026. No macro, syntax, notation, axiom, sorry.
-/
import Derived.Test.YtlolcgklcnechaaGreatDoorRows
import GoSem.ClaimSeven
namespace Go.Proofs.YtlolcgklcnechaaGreatDoor
namespace Rows

/-- THE TIED CARD OF 'laws.FnRleThere'. -/
def fnRleThereCard : Claim7 := { stood := { row := fnRleThereRow, standIns := [], harness := (true, "fcbabd47377dc27478c49c0dc1f90ce0a2dbd0b2f30d6f26374616fbfb9715ac"), looks := true }, kinds := [], alts := [], laidByText := true, laidKinds := [.sentinel, .sentinel, .sentinel, .sentinel, .data, .data, .data, .data], laidTests := true, laidLooks := .later }
def FnRleThereCardSaid : Prop := Claim7.holds Tryz.pinned (.plain (OpenSpec.ofChange fnRleThereSpec)) fnRleThereCard

/-- THE TIED CARD OF 'laws.FnDictionaryFloat32Read'. -/
def fnDictionaryFloat32ReadCard : Claim7 := { stood := { row := fnDictionaryFloat32ReadRow, standIns := [], harness := (true, "fcbabd47377dc27478c49c0dc1f90ce0a2dbd0b2f30d6f26374616fbfb9715ac"), looks := true }, kinds := [], alts := [], laidByText := true, laidKinds := [.sentinel, .sentinel, .sentinel, .sentinel], laidTests := true, laidLooks := .later }
def FnDictionaryFloat32ReadCardSaid : Prop := Claim7.holds Tryz.pinned (.plain (OpenSpec.ofChange fnDictionaryFloat32ReadSpec)) fnDictionaryFloat32ReadCard

/-- THE TIED CARD OF 'laws.FnDictionaryFloat64Between'. -/
def fnDictionaryFloat64BetweenCard : Claim7 := { stood := { row := fnDictionaryFloat64BetweenRow, standIns := [], harness := (true, "fcbabd47377dc27478c49c0dc1f90ce0a2dbd0b2f30d6f26374616fbfb9715ac"), looks := true }, kinds := [], alts := [], laidByText := true, laidKinds := [.sentinel, .sentinel, .sentinel, .sentinel, .data, .data], laidTests := true, laidLooks := .later }
def FnDictionaryFloat64BetweenCardSaid : Prop := Claim7.holds Tryz.pinned (.plain (OpenSpec.ofChange fnDictionaryFloat64BetweenSpec)) fnDictionaryFloat64BetweenCard

/-- THE TIED CARD OF 'laws.FnLevelsThere'. -/
def fnLevelsThereCard : Claim7 := { stood := { row := fnLevelsThereRow, standIns := [], harness := (true, "fcbabd47377dc27478c49c0dc1f90ce0a2dbd0b2f30d6f26374616fbfb9715ac"), looks := true }, kinds := [], alts := [], laidByText := true, laidKinds := [.sentinel, .sentinel, .sentinel, .sentinel], laidTests := true, laidLooks := .later }
def FnLevelsThereCardSaid : Prop := Claim7.holds Tryz.pinned (.plain (OpenSpec.ofChange fnLevelsThereSpec)) fnLevelsThereCard

/-- THE SECOND FORM's CARD OF 'laws.FnRleThere'. -/
def fnRleThereUptoCard : Claim7 := { stood := { row := fnRleThereUptoRow, standIns := [], harness := (true, "fcbabd47377dc27478c49c0dc1f90ce0a2dbd0b2f30d6f26374616fbfb9715ac"), looks := true }, kinds := [], alts := [], laidByText := true, laidKinds := [.sentinel, .sentinel, .sentinel, .sentinel, .data, .data, .data, .data], laidTests := true, laidLooks := .later }
def FnRleThereUptoCardSaid : Prop := Claim7.holds Tryz.pinned (.plain (OpenSpec.upto fnRleThereSpec)) fnRleThereUptoCard

/-- THE SECOND FORM's CARD OF 'laws.FnDictionaryFloat32Read'. -/
def fnDictionaryFloat32ReadUptoCard : Claim7 := { stood := { row := fnDictionaryFloat32ReadUptoRow, standIns := [], harness := (true, "fcbabd47377dc27478c49c0dc1f90ce0a2dbd0b2f30d6f26374616fbfb9715ac"), looks := true }, kinds := [], alts := [], laidByText := true, laidKinds := [.sentinel, .sentinel, .sentinel, .sentinel], laidTests := true, laidLooks := .later }
def FnDictionaryFloat32ReadUptoCardSaid : Prop := Claim7.holds Tryz.pinned (.plain (OpenSpec.upto fnDictionaryFloat32ReadSpec)) fnDictionaryFloat32ReadUptoCard

/-- THE SECOND FORM's CARD OF 'laws.FnDictionaryFloat64Between'. -/
def fnDictionaryFloat64BetweenUptoCard : Claim7 := { stood := { row := fnDictionaryFloat64BetweenUptoRow, standIns := [], harness := (true, "fcbabd47377dc27478c49c0dc1f90ce0a2dbd0b2f30d6f26374616fbfb9715ac"), looks := true }, kinds := [], alts := [], laidByText := true, laidKinds := [.sentinel, .sentinel, .sentinel, .sentinel, .data, .data], laidTests := true, laidLooks := .later }
def FnDictionaryFloat64BetweenUptoCardSaid : Prop := Claim7.holds Tryz.pinned (.plain (OpenSpec.upto fnDictionaryFloat64BetweenSpec)) fnDictionaryFloat64BetweenUptoCard

/-- THE SECOND FORM's CARD OF 'laws.FnLevelsThere'. -/
def fnLevelsThereUptoCard : Claim7 := { stood := { row := fnLevelsThereUptoRow, standIns := [], harness := (true, "fcbabd47377dc27478c49c0dc1f90ce0a2dbd0b2f30d6f26374616fbfb9715ac"), looks := true }, kinds := [], alts := [], laidByText := true, laidKinds := [.sentinel, .sentinel, .sentinel, .sentinel], laidTests := true, laidLooks := .later }
def FnLevelsThereUptoCardSaid : Prop := Claim7.holds Tryz.pinned (.plain (OpenSpec.upto fnLevelsThereSpec)) fnLevelsThereUptoCard
end Rows
end Go.Proofs.YtlolcgklcnechaaGreatDoor
