/-
  NARROWER THAN 'FOR EVERY INPUT', by the rows' own cells (each row's printed sentence says how): FnNCTypes: laid.
  DERIVED. THE GIVEN ROWS OF THIS SEAT. 1 by the template 'for every input the law returns true; each argument reads behind the call as it read before'; 0 by the template 'total and deterministic' (their statements: YtpbnhhfpbadhjaaGreatDoorTotals.lean).
  GIVEN WITH THE SEED: the statements are not yours to turn. If you find one false, say at which input.
  Laid BY PROGRAM, IN A SANDBOX (cutbox-rows.mjs): the forced cells as the released guide's own fill.sh prints them over the translation c35f873d0cbc25e8… (all of the seat's roots in one cut). By AI agents, Wed Nov 11 2026. No macro, syntax, notation, axiom, sorry.
-/
import Derived.Test.YtpbnhhfpbadhjaaGreatDoorChecked
import GoSem.Claim
import GoSem.ClaimJoined
import GoSem.ClaimMapViews
import Derived.JoinedTies
import Derived.KernelRfl
namespace Go.Proofs.YtpbnhhfpbadhjaaGreatDoor
/- THE CELL 'sum', in the pinned program and in every row, IS THE sha256 OF THE DUMP (.gsa) THAT YtpbnhhfpbadhjaaGreatDoorProg.lean LOADS. Nothing in Lean hashes anything: it is a label: what it is worth is what the hold of that sum in a sandbox is worth. -/
noncomputable def Tryz.pinned : Pinned := { name := "ytpbnhhfpbadhjaagreatdoor", sum := "c35f873d0cbc25e8103903c9ff9e0a53628f50ad8e05e1cbb3b36b5ce0d6a4ba", checked := Tryz.checked }
namespace Rows
def none {H : Type} : Left H := { results := [], args := [] }

/- WHAT THE LISTED PACKAGE-LEVEL VARIABLES READ AS WHEN THE CALL BEGINS. Each datum BY PROGRAM (the guide's laid-datum.mjs) off the statement by which the dump's own 'gosem.cut.vars' lays the variable. In a bare row this is a premise. The card (YtpbnhhfpbadhjaaGreatDoorCards.lean) ties it to the program's text. -/
def laid_given_example_pub_clapboard_spec_ncNames {H : Type} : DataW H := .agg [.lit (.string []), .lit (.string [73, 110, 116, 56]), .lit (.string [73, 110, 116, 49, 54]), .lit (.string [73, 110, 116, 51, 50]), .lit (.string [73, 110, 116, 54, 52]), .lit (.string [73, 110, 116, 49, 50, 56]), .lit (.string [73, 110, 116, 50, 53, 54]), .lit (.string [85, 73, 110, 116, 56]), .lit (.string [85, 73, 110, 116, 49, 54]), .lit (.string [85, 73, 110, 116, 51, 50]), .lit (.string [85, 73, 110, 116, 54, 52]), .lit (.string [85, 73, 110, 116, 49, 50, 56]), .lit (.string [85, 73, 110, 116, 50, 53, 54]), .lit (.string [70, 108, 111, 97, 116, 51, 50]), .lit (.string [70, 108, 111, 97, 116, 54, 52]), .lit (.string [66, 70, 108, 111, 97, 116, 49, 54]), .lit (.string [66, 111, 111, 108]), .lit (.string [73, 80, 118, 52]), .lit (.string [73, 80, 118, 54]), .lit (.string [85, 85, 73, 68]), .lit (.string [69, 110, 117, 109, 56]), .lit (.string [69, 110, 117, 109, 49, 54])]

/-- 'laws.FnNCTypes': WHATEVER THE INPUT: true; the input reads as it did. -/
def fnNCTypesSpec : ChangeSpec := { name := "fnNCTypes", vars := ["given.example/pub-clapboard/spec.ncNames"], fn := fun _ => fun
  | [g1] => { results := [.lit (.bool true)], args := [], vars := [g1] }
  | _ => none }
def fnNCTypesRow : OpenClaim := { program := "ytpbnhhfpbadhjaagreatdoor", sum := "c35f873d0cbc25e8103903c9ff9e0a53628f50ad8e05e1cbb3b36b5ce0d6a4ba", func := "given.example/pub-clapboard/laws.FnNCTypes", spec := "fnNCTypes", inPlace := ["math.Float32frombits", "math.Float32bits", "math.Float64frombits", "math.Float64bits"], unfollowed := true, recurses := true, named := ["given.example/pub-clapboard/spec.ncNames"], apart := false, laid := [("given.example/pub-clapboard/spec.ncNames", laid_given_example_pub_clapboard_spec_ncNames)] }
def FnNCTypesSaid : Prop := fnNCTypesRow.holds Tryz.pinned (OpenSpec.ofChange fnNCTypesSpec)

/-- ITS FALSE NEIGHBOUR: 'it returns false'. Refute it at one input. -/
def fnNCTypesWrong : ChangeSpec := { name := "fnNCTypes", vars := ["given.example/pub-clapboard/spec.ncNames"], fn := fun _ => fun
  | [g1] => { results := [.lit (.bool false)], args := [], vars := [g1] }
  | _ => none }
def FnNCTypesWrongFalsely : Prop := fnNCTypesRow.holds Tryz.pinned (OpenSpec.ofChange fnNCTypesWrong)

/- THE SECOND FORM. 'bulk': how many values and letters a reading holds, each counted each time it is reached (what is shared counts as often as it is met; a slice's spare places count too). A statement '..UptoSaid' is the law's where the arguments, and the package variables that the reading takes, are together of bulk at most 1048576: NARROWER than '..Said'. Prove '..Said' where nothing that the law and all that it calls make is longer than what came in: it says more and counts as full. Else prove '..UptoSaid'. A law counts once. -/
mutual
def uptoBulk {H : Type} : DataW H → Nat
  | .lit (.string bytes) => bytes.length + 1
  | .lit _ => 1
  | .nil => 1
  | .ptr d => uptoBulk d + 1
  | .slice elems spare => uptoBulkAll elems + uptoBulkAll spare + 1
  | .agg parts => uptoBulkAll parts + 1
  | .iface _ d => uptoBulk d + 1
  | .map entries => uptoBulkEntries entries + 1
  | .held _ => 1
def uptoBulkAll {H : Type} : List (DataW H) → Nat
  | [] => 0
  | d :: r => uptoBulk d + uptoBulkAll r
def uptoBulkEntries {H : Type} : List (Lit × DataW H) → Nat
  | [] => 0
  | x :: r => uptoBulkEntry x + uptoBulkEntries r
def uptoBulkEntry {H : Type} : Lit × DataW H → Nat
  | (.string bytes, d) => bytes.length + uptoBulk d + 1
  | (_, d) => uptoBulk d + 1
 end
def uptoSmall : (H : Type) → List (DataW H) → Bool := fun _ ds => decide (uptoBulkAll ds ≤ 1048576)
def OpenSpec.upto (s : _root_.Go.ChangeSpec) : _root_.Go.OpenSpec := { _root_.Go.OpenSpec.ofChange s with cond := some uptoSmall }

/-- 'laws.FnNCTypes', WHERE WHAT IT READS IS OF BULK AT MOST 1048576: true; the input reads as it did. -/
def fnNCTypesUptoRow : OpenClaim := { program := "ytpbnhhfpbadhjaagreatdoor", sum := "c35f873d0cbc25e8103903c9ff9e0a53628f50ad8e05e1cbb3b36b5ce0d6a4ba", func := "given.example/pub-clapboard/laws.FnNCTypes", spec := "fnNCTypes", inPlace := ["math.Float32frombits", "math.Float32bits", "math.Float64frombits", "math.Float64bits"], unfollowed := true, recurses := true, named := ["given.example/pub-clapboard/spec.ncNames"], apart := false, laid := [("given.example/pub-clapboard/spec.ncNames", laid_given_example_pub_clapboard_spec_ncNames)], narrowed := true }
def FnNCTypesUptoSaid : Prop := fnNCTypesUptoRow.holds Tryz.pinned (OpenSpec.upto fnNCTypesSpec)

end Rows
end Go.Proofs.YtpbnhhfpbadhjaaGreatDoor
