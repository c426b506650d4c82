/-
  DERIVED. GIVEN WITH THE SEED: THE CARDS: each row of YtocgdgmfnockiaaGreatDoorRows.lean that lists a variable, with what it lists TIED to the program's text (the seventh form; the later family's looks); each row that meets fmt, with fmt's text TOLD by the authors' own Lean function (tested against real Go, not proved from fmt's source: count such statements apart). THE CARD IS WHAT COUNTS. Prove the row's statement (the work); the ties are given (YtocgdgmfnockiaaGreatDoorTie.lean); close each card by the builder's one call (the guide's Derived/Test/ToyasCard.lean, 'card_holds'). Laid BY PROGRAM, IN A SANDBOX (cutbox-door.mjs). By AI agents, Wed Nov 11 2026. No macro, syntax, notation, axiom, sorry.
-/
import Derived.Test.YtocgdgmfnockiaaGreatDoorRows
import GoSem.ClaimSeven
namespace Go.Proofs.YtocgdgmfnockiaaGreatDoor
namespace Rows

/-- THE TIED CARD OF 'laws.FnVariantThere'. -/
def fnVariantThereCard : Claim7 := { stood := { row := fnVariantThereRow, standIns := [], harness := (true, "77cd9eda5ec53258c499b0e11951ef3293015080692c0e3a4739029e84f0cd9d"), looks := true }, kinds := [], alts := [], laidByText := true, laidKinds := [.data, .sentinel, .pinned], laidTests := true, laidLooks := .later }
def FnVariantThereCardSaid : Prop := Claim7.holds Tryz.pinned (.plain (OpenSpec.ofChange fnVariantThereSpec)) fnVariantThereCard

/-- THE SECOND FORM's CARD OF 'laws.FnVariantThere'. -/
def fnVariantThereUptoCard : Claim7 := { stood := { row := fnVariantThereUptoRow, standIns := [], harness := (true, "77cd9eda5ec53258c499b0e11951ef3293015080692c0e3a4739029e84f0cd9d"), looks := true }, kinds := [], alts := [], laidByText := true, laidKinds := [.data, .sentinel, .pinned], laidTests := true, laidLooks := .later }
def FnVariantThereUptoCardSaid : Prop := Claim7.holds Tryz.pinned (.plain (OpenSpec.upto fnVariantThereSpec)) fnVariantThereUptoCard
end Rows
end Go.Proofs.YtocgdgmfnockiaaGreatDoor
