/-
  NARROWER THAN 'FOR EVERY INPUT', by the rows' own cells (each row's printed sentence says how): FnPRReads: laid · FnPRCut: laid · FnPRBuffer: laid.
  DERIVED. THE GIVEN ROWS OF THIS SEAT. 3 by the template 'for every input the law returns true; each argument reads behind the call as it read before'; 0 by the template 'total and deterministic' (their statements: YthfoleapdmpdfaaDoorTotals.lean).
  GIVEN WITH THE SEED: the statements are not yours to turn. If you find one false, say at which input.
  Laid BY PROGRAM, IN A SANDBOX (cutbox-rows.mjs): the forced cells as the released guide's own fill.sh prints them over the translation 29e3704e017b7c98… (all of the seat's roots in one cut). By AI agents, Wed Nov 11 2026. No macro, syntax, notation, axiom, sorry.
-/
import Derived.Test.YthfoleapdmpdfaaDoorChecked
import GoSem.Claim
import GoSem.ClaimJoined
import GoSem.ClaimMapViews
import Derived.JoinedTies
import Derived.KernelRfl
namespace Go.Proofs.YthfoleapdmpdfaaDoor
/- THE CELL 'sum', in the pinned program and in every row, IS THE sha256 OF THE DUMP (.gsa) THAT YthfoleapdmpdfaaDoorProg.lean LOADS. Nothing in Lean hashes anything: it is a label: what it is worth is what the hold of that sum in a sandbox is worth. -/
noncomputable def Tryd.pinned : Pinned := { name := "ythfoleapdmpdfaadoor", sum := "29e3704e017b7c98fd7f29044ecb12e1185e7ee85ff0fb782dc25c79364d672a", checked := Tryd.checked }
namespace Rows
def none {H : Type} : Left H := { results := [], args := [] }

/- WHAT THE LISTED PACKAGE-LEVEL VARIABLES READ AS WHEN THE CALL BEGINS. Each datum BY PROGRAM (the guide's laid-datum.mjs) off the statement by which the dump's own 'gosem.cut.vars' lays the variable. In a bare row this is a premise. The card (YthfoleapdmpdfaaDoorCards.lean) ties it to the program's text. -/
def laid_given_example_pub_clapboard_spec_prWidths {H : Type} : DataW H := .agg [.lit (.int .i64 0), .lit (.int .i64 1), .lit (.int .i64 1), .lit (.int .i64 1), .lit (.int .i64 2), .lit (.int .i64 4), .lit (.int .i64 8), .lit (.int .i64 1), .lit (.int .i64 2), .lit (.int .i64 4), .lit (.int .i64 8), .lit (.int .i64 4), .lit (.int .i64 8), .lit (.int .i64 16), .lit (.int .i64 16), .lit (.int .i64 0), .lit (.int .i64 0), .lit (.int .i64 0), .lit (.int .i64 0), .lit (.int .i64 0)]
def laid_io_EOF {H : Type} : DataW H := .iface "*errors.errorString" (.ptr (.agg [.lit (.string [69, 79, 70])]))

/-- 'laws.FnPRReads': WHATEVER THE INPUT: true; the input reads as it did. -/
def fnPRReadsSpec : ChangeSpec := { name := "fnPRReads", vars := ["given.example/pub-clapboard/spec.prWidths"], fn := fun _ => fun
  | [d1, d2, g1] => { results := [.lit (.bool true)], args := [d1, d2], vars := [g1] }
  | _ => none }
def fnPRReadsRow : OpenClaim := { program := "ythfoleapdmpdfaadoor", sum := "29e3704e017b7c98fd7f29044ecb12e1185e7ee85ff0fb782dc25c79364d672a", func := "given.example/pub-clapboard/laws.FnPRReads", spec := "fnPRReads", inPlace := ["math.Float32frombits", "math.Float32bits", "math.Float64frombits", "math.Float64bits"], unfollowed := true, recurses := true, named := ["given.example/pub-clapboard/spec.prWidths", "encoding/binary.LittleEndian"], apart := false, laid := [("given.example/pub-clapboard/spec.prWidths", laid_given_example_pub_clapboard_spec_prWidths)] }
def FnPRReadsSaid : Prop := fnPRReadsRow.holds Tryd.pinned (OpenSpec.ofChange fnPRReadsSpec)

/-- ITS FALSE NEIGHBOUR: 'it returns false'. Refute it at one input. -/
def fnPRReadsWrong : ChangeSpec := { name := "fnPRReads", vars := ["given.example/pub-clapboard/spec.prWidths"], fn := fun _ => fun
  | [d1, d2, g1] => { results := [.lit (.bool false)], args := [d1, d2], vars := [g1] }
  | _ => none }
def FnPRReadsWrongFalsely : Prop := fnPRReadsRow.holds Tryd.pinned (OpenSpec.ofChange fnPRReadsWrong)

/-- 'laws.FnPRCut': WHATEVER THE INPUT: true; the input reads as it did. -/
def fnPRCutSpec : ChangeSpec := { name := "fnPRCut", vars := ["given.example/pub-clapboard/spec.prWidths"], fn := fun _ => fun
  | [d1, d2, g1] => { results := [.lit (.bool true)], args := [d1, d2], vars := [g1] }
  | _ => none }
def fnPRCutRow : OpenClaim := { program := "ythfoleapdmpdfaadoor", sum := "29e3704e017b7c98fd7f29044ecb12e1185e7ee85ff0fb782dc25c79364d672a", func := "given.example/pub-clapboard/laws.FnPRCut", spec := "fnPRCut", inPlace := ["math.Float32frombits", "math.Float32bits", "math.Float64frombits", "math.Float64bits"], unfollowed := true, recurses := true, named := ["given.example/pub-clapboard/spec.prWidths", "encoding/binary.LittleEndian"], apart := false, laid := [("given.example/pub-clapboard/spec.prWidths", laid_given_example_pub_clapboard_spec_prWidths)] }
def FnPRCutSaid : Prop := fnPRCutRow.holds Tryd.pinned (OpenSpec.ofChange fnPRCutSpec)

/-- ITS FALSE NEIGHBOUR: 'it returns false'. Refute it at one input. -/
def fnPRCutWrong : ChangeSpec := { name := "fnPRCut", vars := ["given.example/pub-clapboard/spec.prWidths"], fn := fun _ => fun
  | [d1, d2, g1] => { results := [.lit (.bool false)], args := [d1, d2], vars := [g1] }
  | _ => none }
def FnPRCutWrongFalsely : Prop := fnPRCutRow.holds Tryd.pinned (OpenSpec.ofChange fnPRCutWrong)

/-- 'laws.FnPRBuffer': WHATEVER THE INPUT: true; the input reads as it did. -/
def fnPRBufferSpec : ChangeSpec := { name := "fnPRBuffer", fn := fun _ => fun
  | [d1, d2, d3] => { results := [.lit (.bool true)], args := [d1, d2, d3] }
  | _ => none }
def fnPRBufferRow : OpenClaim := { program := "ythfoleapdmpdfaadoor", sum := "29e3704e017b7c98fd7f29044ecb12e1185e7ee85ff0fb782dc25c79364d672a", func := "given.example/pub-clapboard/laws.FnPRBuffer", spec := "fnPRBuffer", inPlace := ["math.Float32frombits", "math.Float32bits", "math.Float64frombits", "math.Float64bits"], unfollowed := true, recurses := true, named := ["io.EOF", "encoding/binary.LittleEndian"], apart := false, laid := [("io.EOF", laid_io_EOF)] }
def FnPRBufferSaid : Prop := fnPRBufferRow.holds Tryd.pinned (OpenSpec.ofChange fnPRBufferSpec)

/-- ITS FALSE NEIGHBOUR: 'it returns false'. Refute it at one input. -/
def fnPRBufferWrong : ChangeSpec := { name := "fnPRBuffer", fn := fun _ => fun
  | [d1, d2, d3] => { results := [.lit (.bool false)], args := [d1, d2, d3] }
  | _ => none }
def FnPRBufferWrongFalsely : Prop := fnPRBufferRow.holds Tryd.pinned (OpenSpec.ofChange fnPRBufferWrong)

/- THE SECOND FORM. 'bulk': how many values and letters a reading holds, each counted each time it is reached (what is shared counts as often as it is met; a slice's spare places count too). A statement '..UptoSaid' is the law's where the arguments, and the package variables that the reading takes, are together of bulk at most 1048576: NARROWER than '..Said'. Prove '..Said' where nothing that the law and all that it calls make is longer than what came in: it says more and counts as full. Else prove '..UptoSaid'. A law counts once. -/
mutual
def uptoBulk {H : Type} : DataW H → Nat
  | .lit (.string bytes) => bytes.length + 1
  | .lit _ => 1
  | .nil => 1
  | .ptr d => uptoBulk d + 1
  | .slice elems spare => uptoBulkAll elems + uptoBulkAll spare + 1
  | .agg parts => uptoBulkAll parts + 1
  | .iface _ d => uptoBulk d + 1
  | .map entries => uptoBulkEntries entries + 1
  | .held _ => 1
def uptoBulkAll {H : Type} : List (DataW H) → Nat
  | [] => 0
  | d :: r => uptoBulk d + uptoBulkAll r
def uptoBulkEntries {H : Type} : List (Lit × DataW H) → Nat
  | [] => 0
  | x :: r => uptoBulkEntry x + uptoBulkEntries r
def uptoBulkEntry {H : Type} : Lit × DataW H → Nat
  | (.string bytes, d) => bytes.length + uptoBulk d + 1
  | (_, d) => uptoBulk d + 1
 end
def uptoSmall : (H : Type) → List (DataW H) → Bool := fun _ ds => decide (uptoBulkAll ds ≤ 1048576)
def OpenSpec.upto (s : _root_.Go.ChangeSpec) : _root_.Go.OpenSpec := { _root_.Go.OpenSpec.ofChange s with cond := some uptoSmall }

/-- 'laws.FnPRReads', WHERE WHAT IT READS IS OF BULK AT MOST 1048576: true; the input reads as it did. -/
def fnPRReadsUptoRow : OpenClaim := { program := "ythfoleapdmpdfaadoor", sum := "29e3704e017b7c98fd7f29044ecb12e1185e7ee85ff0fb782dc25c79364d672a", func := "given.example/pub-clapboard/laws.FnPRReads", spec := "fnPRReads", inPlace := ["math.Float32frombits", "math.Float32bits", "math.Float64frombits", "math.Float64bits"], unfollowed := true, recurses := true, named := ["given.example/pub-clapboard/spec.prWidths", "encoding/binary.LittleEndian"], apart := false, laid := [("given.example/pub-clapboard/spec.prWidths", laid_given_example_pub_clapboard_spec_prWidths)], narrowed := true }
def FnPRReadsUptoSaid : Prop := fnPRReadsUptoRow.holds Tryd.pinned (OpenSpec.upto fnPRReadsSpec)

/-- 'laws.FnPRCut', WHERE WHAT IT READS IS OF BULK AT MOST 1048576: true; the input reads as it did. -/
def fnPRCutUptoRow : OpenClaim := { program := "ythfoleapdmpdfaadoor", sum := "29e3704e017b7c98fd7f29044ecb12e1185e7ee85ff0fb782dc25c79364d672a", func := "given.example/pub-clapboard/laws.FnPRCut", spec := "fnPRCut", inPlace := ["math.Float32frombits", "math.Float32bits", "math.Float64frombits", "math.Float64bits"], unfollowed := true, recurses := true, named := ["given.example/pub-clapboard/spec.prWidths", "encoding/binary.LittleEndian"], apart := false, laid := [("given.example/pub-clapboard/spec.prWidths", laid_given_example_pub_clapboard_spec_prWidths)], narrowed := true }
def FnPRCutUptoSaid : Prop := fnPRCutUptoRow.holds Tryd.pinned (OpenSpec.upto fnPRCutSpec)

/-- 'laws.FnPRBuffer', WHERE WHAT IT READS IS OF BULK AT MOST 1048576: true; the input reads as it did. -/
def fnPRBufferUptoRow : OpenClaim := { program := "ythfoleapdmpdfaadoor", sum := "29e3704e017b7c98fd7f29044ecb12e1185e7ee85ff0fb782dc25c79364d672a", func := "given.example/pub-clapboard/laws.FnPRBuffer", spec := "fnPRBuffer", inPlace := ["math.Float32frombits", "math.Float32bits", "math.Float64frombits", "math.Float64bits"], unfollowed := true, recurses := true, named := ["io.EOF", "encoding/binary.LittleEndian"], apart := false, laid := [("io.EOF", laid_io_EOF)], narrowed := true }
def FnPRBufferUptoSaid : Prop := fnPRBufferUptoRow.holds Tryd.pinned (OpenSpec.upto fnPRBufferSpec)

end Rows
end Go.Proofs.YthfoleapdmpdfaaDoor
