/-
  DERIVED. GIVEN WITH THE SEED: THE CARDS: each row of YtpbnhhfpbadhjaaGreatDoorRows.lean that lists a variable, with what it lists TIED to the program's text (the seventh form; the later family's looks); each row that meets fmt, with fmt's text TOLD by the authors' own Lean function (tested against real Go, not proved from fmt's source: count such statements apart). THE CARD IS WHAT COUNTS. Prove the row's statement (the work); the ties are given (YtpbnhhfpbadhjaaGreatDoorTie.lean); close each card by the builder's one call (the guide's Derived/Test/ToyasCard.lean, 'card_holds'). Laid BY PROGRAM, IN A SANDBOX (cutbox-door.mjs). By AI agents, Wed Nov 11 2026. No macro, syntax, notation, axiom, sorry.
-/
import Derived.Test.YtpbnhhfpbadhjaaGreatDoorRows
import GoSem.ClaimSeven
namespace Go.Proofs.YtpbnhhfpbadhjaaGreatDoor
namespace Rows

/-- THE TIED CARD OF 'laws.FnNCTypes'. -/
def fnNCTypesCard : Claim7 := { stood := { row := fnNCTypesRow, standIns := [], harness := (true, "9c4ccf53ae33b631ac6cf233c533328454d0ea5734a96400ad3c5a5b1ecca0e7"), looks := false }, kinds := [], alts := [], laidByText := true, laidKinds := [.data], laidTests := true, laidLooks := .later }
def FnNCTypesCardSaid : Prop := Claim7.holds Tryz.pinned (.plain (OpenSpec.ofChange fnNCTypesSpec)) fnNCTypesCard

/-- THE SECOND FORM's CARD OF 'laws.FnNCTypes'. -/
def fnNCTypesUptoCard : Claim7 := { stood := { row := fnNCTypesUptoRow, standIns := [], harness := (true, "9c4ccf53ae33b631ac6cf233c533328454d0ea5734a96400ad3c5a5b1ecca0e7"), looks := false }, kinds := [], alts := [], laidByText := true, laidKinds := [.data], laidTests := true, laidLooks := .later }
def FnNCTypesUptoCardSaid : Prop := Claim7.holds Tryz.pinned (.plain (OpenSpec.upto fnNCTypesSpec)) fnNCTypesUptoCard
end Rows
end Go.Proofs.YtpbnhhfpbadhjaaGreatDoor
