/-
  DERIVED. GIVEN WITH THE SEED: THE CARDS: each row of YtlkaofhdllkgfaaDoorRows.lean that lists a variable, with what it lists TIED to the program's text (the seventh form; the later family's looks); each row that meets fmt, with fmt's text TOLD by the authors' own Lean function (tested against real Go, not proved from fmt's source: count such statements apart). THE CARD IS WHAT COUNTS. Prove the row's statement (the work); the ties are given (YtlkaofhdllkgfaaDoorTie.lean); close each card by the builder's one call (the guide's Derived/Test/ToyasCard.lean, 'card_holds'). Laid BY PROGRAM, IN A SANDBOX (cutbox-door.mjs). By AI agents, Wed Nov 11 2026. No macro, syntax, notation, axiom, sorry.
-/
import Derived.Test.YtlkaofhdllkgfaaDoorRows
import GoSem.ClaimSeven
namespace Go.Proofs.YtlkaofhdllkgfaaDoor
namespace Rows

/-- THE TIED CARD OF 'laws.FnCTQBit'. -/
def fnCTQBitCard : Claim7 := { stood := { row := fnCTQBitRow, standIns := [], harness := (true, "e75113fa92b34965bfbc34568f4aac61dede831b8f9bf93cf831621bcc31edcf"), looks := true }, kinds := [], alts := [], laidByText := true, laidKinds := [.data, .data, .data, .data, .sentinel, .sentinel, .listed, .data, .pinned], laidTests := true, laidLooks := .later }
def FnCTQBitCardSaid : Prop := Claim7.holds Tryd.pinned (.plain (OpenSpec.ofChange fnCTQBitSpec)) fnCTQBitCard

/-- THE SECOND FORM's CARD OF 'laws.FnCTQBit'. -/
def fnCTQBitUptoCard : Claim7 := { stood := { row := fnCTQBitUptoRow, standIns := [], harness := (true, "e75113fa92b34965bfbc34568f4aac61dede831b8f9bf93cf831621bcc31edcf"), looks := true }, kinds := [], alts := [], laidByText := true, laidKinds := [.data, .data, .data, .data, .sentinel, .sentinel, .listed, .data, .pinned], laidTests := true, laidLooks := .later }
def FnCTQBitUptoCardSaid : Prop := Claim7.holds Tryd.pinned (.plain (OpenSpec.upto fnCTQBitSpec)) fnCTQBitUptoCard
end Rows
end Go.Proofs.YtlkaofhdllkgfaaDoor
