/-
  No cell of these rows narrows 'for every input' (looked for: loops, veiled, ifaces, maps, wideKeys, modest, calm, conditions, laid).
  DERIVED. THE GIVEN ROWS OF THIS SEAT. 3 by the template 'for every input the law returns true; each argument reads behind the call as it read before'; 0 by the template 'total and deterministic' (their statements: YtkgjchfbbpabpaaGreatTotals.lean).
  GIVEN WITH THE SEED: the statements are not yours to turn. If you find one false, say at which input.
  Laid BY PROGRAM, IN A SANDBOX (cutbox-rows.mjs): the forced cells as the released guide's own fill.sh prints them over the translation fb7b82f169796954… (all of the seat's roots in one cut). By AI agents, Wed Nov 11 2026. No macro, syntax, notation, axiom, sorry.
-/
import Derived.Test.YtkgjchfbbpabpaaGreatChecked
import GoSem.Claim
import GoSem.ClaimJoined
import GoSem.ClaimMapViews
import Derived.JoinedTies
import Derived.KernelRfl
namespace Go.Proofs.YtkgjchfbbpabpaaGreat
/- THE CELL 'sum', in the pinned program and in every row, IS THE sha256 OF THE DUMP (.gsa) THAT YtkgjchfbbpabpaaGreatProg.lean LOADS. Nothing in Lean hashes anything: it is a label: what it is worth is what the hold of that sum in a sandbox is worth. -/
noncomputable def Tryz.pinned : Pinned := { name := "ytkgjchfbbpabpaagreat", sum := "fb7b82f169796954c4e361ae2da3938402b9e45eecf1ebfa5dc897fddfe820bd", checked := Tryz.checked }
namespace Rows
def none {H : Type} : Left H := { results := [], args := [] }

/-- 'laws.FnARDeepOnes': WHATEVER THE INPUT: true; the input reads as it did. -/
def fnARDeepOnesSpec : ChangeSpec := { name := "fnARDeepOnes", fn := fun _ => fun
  | [d] => { results := [.lit (.bool true)], args := [d] }
  | _ => none }
def fnARDeepOnesRow : OpenClaim := { program := "ytkgjchfbbpabpaagreat", sum := "fb7b82f169796954c4e361ae2da3938402b9e45eecf1ebfa5dc897fddfe820bd", func := "given.example/pub-clapboard/laws.FnARDeepOnes", spec := "fnARDeepOnes", unfollowed := true, recurses := true, apart := false }
def FnARDeepOnesSaid : Prop := fnARDeepOnesRow.holds Tryz.pinned (OpenSpec.ofChange fnARDeepOnesSpec)

/-- ITS FALSE NEIGHBOUR: 'it returns false'. Refute it at one input. -/
def fnARDeepOnesWrong : ChangeSpec := { name := "fnARDeepOnes", fn := fun _ => fun
  | [d] => { results := [.lit (.bool false)], args := [d] }
  | _ => none }
def FnARDeepOnesWrongFalsely : Prop := fnARDeepOnesRow.holds Tryz.pinned (OpenSpec.ofChange fnARDeepOnesWrong)

/-- 'laws.FnARDeepKeys': WHATEVER THE INPUT: true; the input reads as it did. -/
def fnARDeepKeysSpec : ChangeSpec := { name := "fnARDeepKeys", fn := fun _ => fun
  | [d] => { results := [.lit (.bool true)], args := [d] }
  | _ => none }
def fnARDeepKeysRow : OpenClaim := { program := "ytkgjchfbbpabpaagreat", sum := "fb7b82f169796954c4e361ae2da3938402b9e45eecf1ebfa5dc897fddfe820bd", func := "given.example/pub-clapboard/laws.FnARDeepKeys", spec := "fnARDeepKeys", unfollowed := true, recurses := true, apart := false }
def FnARDeepKeysSaid : Prop := fnARDeepKeysRow.holds Tryz.pinned (OpenSpec.ofChange fnARDeepKeysSpec)

/-- ITS FALSE NEIGHBOUR: 'it returns false'. Refute it at one input. -/
def fnARDeepKeysWrong : ChangeSpec := { name := "fnARDeepKeys", fn := fun _ => fun
  | [d] => { results := [.lit (.bool false)], args := [d] }
  | _ => none }
def FnARDeepKeysWrongFalsely : Prop := fnARDeepKeysRow.holds Tryz.pinned (OpenSpec.ofChange fnARDeepKeysWrong)

/-- 'laws.FnXStrings': WHATEVER THE INPUT: true; the input reads as it did. -/
def fnXStringsSpec : ChangeSpec := { name := "fnXStrings", fn := fun _ => fun
  | [d] => { results := [.lit (.bool true)], args := [d] }
  | _ => none }
def fnXStringsRow : OpenClaim := { program := "ytkgjchfbbpabpaagreat", sum := "fb7b82f169796954c4e361ae2da3938402b9e45eecf1ebfa5dc897fddfe820bd", func := "given.example/pub-clapboard/laws.FnXStrings", spec := "fnXStrings", inPlace := ["math.Float32frombits", "math.Float32bits", "math.Float64frombits", "math.Float64bits"], unfollowed := true, recurses := true, named := ["encoding/binary.LittleEndian"], apart := false }
def FnXStringsSaid : Prop := fnXStringsRow.holds Tryz.pinned (OpenSpec.ofChange fnXStringsSpec)

/-- ITS FALSE NEIGHBOUR: 'it returns false'. Refute it at one input. -/
def fnXStringsWrong : ChangeSpec := { name := "fnXStrings", fn := fun _ => fun
  | [d] => { results := [.lit (.bool false)], args := [d] }
  | _ => none }
def FnXStringsWrongFalsely : Prop := fnXStringsRow.holds Tryz.pinned (OpenSpec.ofChange fnXStringsWrong)

/- THE SECOND FORM. 'bulk': how many values and letters a reading holds, each counted each time it is reached (what is shared counts as often as it is met; a slice's spare places count too). A statement '..UptoSaid' is the law's where the arguments, and the package variables that the reading takes, are together of bulk at most 1048576: NARROWER than '..Said'. Prove '..Said' where nothing that the law and all that it calls make is longer than what came in: it says more and counts as full. Else prove '..UptoSaid'. A law counts once. -/
mutual
def uptoBulk {H : Type} : DataW H → Nat
  | .lit (.string bytes) => bytes.length + 1
  | .lit _ => 1
  | .nil => 1
  | .ptr d => uptoBulk d + 1
  | .slice elems spare => uptoBulkAll elems + uptoBulkAll spare + 1
  | .agg parts => uptoBulkAll parts + 1
  | .iface _ d => uptoBulk d + 1
  | .map entries => uptoBulkEntries entries + 1
  | .held _ => 1
def uptoBulkAll {H : Type} : List (DataW H) → Nat
  | [] => 0
  | d :: r => uptoBulk d + uptoBulkAll r
def uptoBulkEntries {H : Type} : List (Lit × DataW H) → Nat
  | [] => 0
  | x :: r => uptoBulkEntry x + uptoBulkEntries r
def uptoBulkEntry {H : Type} : Lit × DataW H → Nat
  | (.string bytes, d) => bytes.length + uptoBulk d + 1
  | (_, d) => uptoBulk d + 1
 end
def uptoSmall : (H : Type) → List (DataW H) → Bool := fun _ ds => decide (uptoBulkAll ds ≤ 1048576)
def OpenSpec.upto (s : _root_.Go.ChangeSpec) : _root_.Go.OpenSpec := { _root_.Go.OpenSpec.ofChange s with cond := some uptoSmall }

/-- 'laws.FnARDeepOnes', WHERE WHAT IT READS IS OF BULK AT MOST 1048576: true; the input reads as it did. -/
def fnARDeepOnesUptoRow : OpenClaim := { program := "ytkgjchfbbpabpaagreat", sum := "fb7b82f169796954c4e361ae2da3938402b9e45eecf1ebfa5dc897fddfe820bd", func := "given.example/pub-clapboard/laws.FnARDeepOnes", spec := "fnARDeepOnes", unfollowed := true, recurses := true, apart := false, narrowed := true }
def FnARDeepOnesUptoSaid : Prop := fnARDeepOnesUptoRow.holds Tryz.pinned (OpenSpec.upto fnARDeepOnesSpec)

/-- 'laws.FnARDeepKeys', WHERE WHAT IT READS IS OF BULK AT MOST 1048576: true; the input reads as it did. -/
def fnARDeepKeysUptoRow : OpenClaim := { program := "ytkgjchfbbpabpaagreat", sum := "fb7b82f169796954c4e361ae2da3938402b9e45eecf1ebfa5dc897fddfe820bd", func := "given.example/pub-clapboard/laws.FnARDeepKeys", spec := "fnARDeepKeys", unfollowed := true, recurses := true, apart := false, narrowed := true }
def FnARDeepKeysUptoSaid : Prop := fnARDeepKeysUptoRow.holds Tryz.pinned (OpenSpec.upto fnARDeepKeysSpec)

/-- 'laws.FnXStrings', WHERE WHAT IT READS IS OF BULK AT MOST 1048576: true; the input reads as it did. -/
def fnXStringsUptoRow : OpenClaim := { program := "ytkgjchfbbpabpaagreat", sum := "fb7b82f169796954c4e361ae2da3938402b9e45eecf1ebfa5dc897fddfe820bd", func := "given.example/pub-clapboard/laws.FnXStrings", spec := "fnXStrings", inPlace := ["math.Float32frombits", "math.Float32bits", "math.Float64frombits", "math.Float64bits"], unfollowed := true, recurses := true, named := ["encoding/binary.LittleEndian"], apart := false, narrowed := true }
def FnXStringsUptoSaid : Prop := fnXStringsUptoRow.holds Tryz.pinned (OpenSpec.upto fnXStringsSpec)

end Rows
end Go.Proofs.YtkgjchfbbpabpaaGreat
