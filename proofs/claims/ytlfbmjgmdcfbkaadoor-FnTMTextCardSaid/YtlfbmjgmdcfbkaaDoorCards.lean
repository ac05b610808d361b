/-
  DERIVED. GIVEN WITH THE SEED: THE CARDS: each row of YtlfbmjgmdcfbkaaDoorRows.lean that lists a variable, with what it lists TIED to the program's text (the seventh form; the later family's looks); each row that meets fmt, with fmt's text TOLD by the authors' own Lean function (tested against real Go, not proved from fmt's source: count such statements apart). THE CARD IS WHAT COUNTS. Prove the row's statement (the work); the ties are given (YtlfbmjgmdcfbkaaDoorTie.lean); close each card by the builder's one call (the guide's Derived/Test/ToyasCard.lean, 'card_holds'). Laid BY PROGRAM, IN A SANDBOX (cutbox-door.mjs). By AI agents, Wed Nov 11 2026. No macro, syntax, notation, axiom, sorry.
-/
import Derived.Test.YtlfbmjgmdcfbkaaDoorRows
import GoSem.ClaimSeven
namespace Go.Proofs.YtlfbmjgmdcfbkaaDoor
namespace Rows

/-- THE TIED CARD OF 'laws.FnTMDigits'. -/
def fnTMDigitsCard : Claim7 := { stood := { row := fnTMDigitsRow, standIns := [], harness := (true, "21547f1cc6411e27cff2b711e3209a5bac7b1d8965ff6696bb6c6d97e0e48e17"), looks := true }, kinds := [], alts := [], laidByText := true, laidKinds := [.data, .data, .data, .sentinel, .sentinel], laidTests := true, laidLooks := .later }
def FnTMDigitsCardSaid : Prop := Claim7.holds Tryd.pinned (.plain (OpenSpec.ofChange fnTMDigitsSpec)) fnTMDigitsCard

/-- THE TIED CARD OF 'laws.FnTMText'. -/
def fnTMTextCard : Claim7 := { stood := { row := fnTMTextRow, standIns := [], harness := (true, "21547f1cc6411e27cff2b711e3209a5bac7b1d8965ff6696bb6c6d97e0e48e17"), looks := true }, kinds := [], alts := [], laidByText := true, laidKinds := [.data, .data, .data, .sentinel, .sentinel], laidTests := true, laidLooks := .later }
def FnTMTextCardSaid : Prop := Claim7.holds Tryd.pinned (.plain (OpenSpec.ofChange fnTMTextSpec)) fnTMTextCard

/-- THE TIED CARD OF 'laws.FnTMWrong'. -/
def fnTMWrongCard : Claim7 := { stood := { row := fnTMWrongRow, standIns := [], harness := (true, "21547f1cc6411e27cff2b711e3209a5bac7b1d8965ff6696bb6c6d97e0e48e17"), looks := true }, kinds := [], alts := [], laidByText := true, laidKinds := [.data, .data, .data, .sentinel, .sentinel], laidTests := true, laidLooks := .later }
def FnTMWrongCardSaid : Prop := Claim7.holds Tryd.pinned (.plain (OpenSpec.ofChange fnTMWrongSpec)) fnTMWrongCard

/-- THE SECOND FORM's CARD OF 'laws.FnTMDigits'. -/
def fnTMDigitsUptoCard : Claim7 := { stood := { row := fnTMDigitsUptoRow, standIns := [], harness := (true, "21547f1cc6411e27cff2b711e3209a5bac7b1d8965ff6696bb6c6d97e0e48e17"), looks := true }, kinds := [], alts := [], laidByText := true, laidKinds := [.data, .data, .data, .sentinel, .sentinel], laidTests := true, laidLooks := .later }
def FnTMDigitsUptoCardSaid : Prop := Claim7.holds Tryd.pinned (.plain (OpenSpec.upto fnTMDigitsSpec)) fnTMDigitsUptoCard

/-- THE SECOND FORM's CARD OF 'laws.FnTMText'. -/
def fnTMTextUptoCard : Claim7 := { stood := { row := fnTMTextUptoRow, standIns := [], harness := (true, "21547f1cc6411e27cff2b711e3209a5bac7b1d8965ff6696bb6c6d97e0e48e17"), looks := true }, kinds := [], alts := [], laidByText := true, laidKinds := [.data, .data, .data, .sentinel, .sentinel], laidTests := true, laidLooks := .later }
def FnTMTextUptoCardSaid : Prop := Claim7.holds Tryd.pinned (.plain (OpenSpec.upto fnTMTextSpec)) fnTMTextUptoCard

/-- THE SECOND FORM's CARD OF 'laws.FnTMWrong'. -/
def fnTMWrongUptoCard : Claim7 := { stood := { row := fnTMWrongUptoRow, standIns := [], harness := (true, "21547f1cc6411e27cff2b711e3209a5bac7b1d8965ff6696bb6c6d97e0e48e17"), looks := true }, kinds := [], alts := [], laidByText := true, laidKinds := [.data, .data, .data, .sentinel, .sentinel], laidTests := true, laidLooks := .later }
def FnTMWrongUptoCardSaid : Prop := Claim7.holds Tryd.pinned (.plain (OpenSpec.upto fnTMWrongSpec)) fnTMWrongUptoCard
end Rows
end Go.Proofs.YtlfbmjgmdcfbkaaDoor
