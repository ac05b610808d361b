/-
  DERIVED. GIVEN WITH THE SEED: THE CARDS: each row of YthfoleapdmpdfaaDoorRows.lean that lists a variable, with what it lists TIED to the program's text (the seventh form; the later family's looks); each row that meets fmt, with fmt's text TOLD by the authors' own Lean function (tested against real Go, not proved from fmt's source: count such statements apart). THE CARD IS WHAT COUNTS. Prove the row's statement (the work); the ties are given (YthfoleapdmpdfaaDoorTie.lean); close each card by the builder's one call (the guide's Derived/Test/ToyasCard.lean, 'card_holds'). Laid BY PROGRAM, IN A SANDBOX (cutbox-door.mjs). By AI agents, Wed Nov 11 2026. No macro, syntax, notation, axiom, sorry.
-/
import Derived.Test.YthfoleapdmpdfaaDoorRows
import GoSem.ClaimSeven
namespace Go.Proofs.YthfoleapdmpdfaaDoor
namespace Rows

/-- THE TIED CARD OF 'laws.FnPRReads'. -/
def fnPRReadsCard : Claim7 := { stood := { row := fnPRReadsRow, standIns := [], harness := (true, "21d87c1ec4a0755f6faebb7aa80d827e0e319964d640ee02a56aa9106aaaafa5"), looks := true }, kinds := [], alts := [], laidByText := true, laidKinds := [.data], laidTests := true, laidLooks := .later }
def FnPRReadsCardSaid : Prop := Claim7.holds Tryd.pinned (.plain (OpenSpec.ofChange fnPRReadsSpec)) fnPRReadsCard

/-- THE TIED CARD OF 'laws.FnPRCut'. -/
def fnPRCutCard : Claim7 := { stood := { row := fnPRCutRow, standIns := [], harness := (true, "21d87c1ec4a0755f6faebb7aa80d827e0e319964d640ee02a56aa9106aaaafa5"), looks := true }, kinds := [], alts := [], laidByText := true, laidKinds := [.data], laidTests := true, laidLooks := .later }
def FnPRCutCardSaid : Prop := Claim7.holds Tryd.pinned (.plain (OpenSpec.ofChange fnPRCutSpec)) fnPRCutCard

/-- THE TIED CARD OF 'laws.FnPRBuffer'. -/
def fnPRBufferCard : Claim7 := { stood := { row := fnPRBufferRow, standIns := [], harness := (true, "21d87c1ec4a0755f6faebb7aa80d827e0e319964d640ee02a56aa9106aaaafa5"), looks := true }, kinds := [], alts := [], laidByText := true, laidKinds := [.sentinel], laidTests := true, laidLooks := .later }
def FnPRBufferCardSaid : Prop := Claim7.holds Tryd.pinned (.plain (OpenSpec.ofChange fnPRBufferSpec)) fnPRBufferCard

/-- THE SECOND FORM's CARD OF 'laws.FnPRReads'. -/
def fnPRReadsUptoCard : Claim7 := { stood := { row := fnPRReadsUptoRow, standIns := [], harness := (true, "21d87c1ec4a0755f6faebb7aa80d827e0e319964d640ee02a56aa9106aaaafa5"), looks := true }, kinds := [], alts := [], laidByText := true, laidKinds := [.data], laidTests := true, laidLooks := .later }
def FnPRReadsUptoCardSaid : Prop := Claim7.holds Tryd.pinned (.plain (OpenSpec.upto fnPRReadsSpec)) fnPRReadsUptoCard

/-- THE SECOND FORM's CARD OF 'laws.FnPRCut'. -/
def fnPRCutUptoCard : Claim7 := { stood := { row := fnPRCutUptoRow, standIns := [], harness := (true, "21d87c1ec4a0755f6faebb7aa80d827e0e319964d640ee02a56aa9106aaaafa5"), looks := true }, kinds := [], alts := [], laidByText := true, laidKinds := [.data], laidTests := true, laidLooks := .later }
def FnPRCutUptoCardSaid : Prop := Claim7.holds Tryd.pinned (.plain (OpenSpec.upto fnPRCutSpec)) fnPRCutUptoCard

/-- THE SECOND FORM's CARD OF 'laws.FnPRBuffer'. -/
def fnPRBufferUptoCard : Claim7 := { stood := { row := fnPRBufferUptoRow, standIns := [], harness := (true, "21d87c1ec4a0755f6faebb7aa80d827e0e319964d640ee02a56aa9106aaaafa5"), looks := true }, kinds := [], alts := [], laidByText := true, laidKinds := [.sentinel], laidTests := true, laidLooks := .later }
def FnPRBufferUptoCardSaid : Prop := Claim7.holds Tryd.pinned (.plain (OpenSpec.upto fnPRBufferSpec)) fnPRBufferUptoCard
end Rows
end Go.Proofs.YthfoleapdmpdfaaDoor
