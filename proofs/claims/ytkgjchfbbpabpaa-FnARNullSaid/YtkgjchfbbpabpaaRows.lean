/-
  No cell of these rows narrows 'for every input' (looked for: loops, veiled, ifaces, maps, wideKeys, modest, calm, conditions, laid).
  DERIVED. THE GIVEN ROWS OF THIS SEAT. 3 by the template 'for every input the law returns true; each argument reads behind the call as it read before'; 0 by the template 'total and deterministic' (their statements: YtkgjchfbbpabpaaTotals.lean).
  GIVEN WITH THE SEED: the statements are not yours to turn. If you find one false, say at which input.
  Laid BY PROGRAM, IN A SANDBOX (cutbox-rows.mjs): the forced cells as the released guide's own fill.sh prints them over the translation 67648c244ccad607… (all of the seat's roots in one cut). By AI agents, Wed Nov 11 2026. No macro, syntax, notation, axiom, sorry.
-/
import Derived.Test.YtkgjchfbbpabpaaChecked
import GoSem.Claim
import GoSem.ClaimJoined
import GoSem.ClaimMapViews
import Derived.JoinedTies
import Derived.KernelRfl
namespace Go.Proofs.Ytkgjchfbbpabpaa
/- THE CELL 'sum', in the pinned program and in every row, IS THE sha256 OF THE DUMP (.gsa) THAT YtkgjchfbbpabpaaProg.lean LOADS. Nothing in Lean hashes anything: it is a label: what it is worth is what the hold of that sum in a sandbox is worth. -/
noncomputable def Try.pinned : Pinned := { name := "ytkgjchfbbpabpaa", sum := "67648c244ccad607952def8192aa60ebc9bffd94d1a1e1136b6ae685e83146bc", checked := Try.checked }
namespace Rows
def none {H : Type} : Left H := { results := [], args := [] }

/-- 'laws.FnARStr': WHATEVER THE INPUT: true; the input reads as it did. -/
def fnARStrSpec : ChangeSpec := { name := "fnARStr", fn := fun _ => fun
  | [d] => { results := [.lit (.bool true)], args := [d] }
  | _ => none }
def fnARStrRow : OpenClaim := { program := "ytkgjchfbbpabpaa", sum := "67648c244ccad607952def8192aa60ebc9bffd94d1a1e1136b6ae685e83146bc", func := "given.example/pub-clapboard/laws.FnARStr", spec := "fnARStr", unfollowed := true, recurses := true, apart := false }
def FnARStrSaid : Prop := fnARStrRow.holds Try.pinned (OpenSpec.ofChange fnARStrSpec)

/-- ITS FALSE NEIGHBOUR: 'it returns false'. Refute it at one input. -/
def fnARStrWrong : ChangeSpec := { name := "fnARStr", fn := fun _ => fun
  | [d] => { results := [.lit (.bool false)], args := [d] }
  | _ => none }
def FnARStrWrongFalsely : Prop := fnARStrRow.holds Try.pinned (OpenSpec.ofChange fnARStrWrong)

/-- 'laws.FnARMap': WHATEVER THE INPUT: true; the input reads as it did. -/
def fnARMapSpec : ChangeSpec := { name := "fnARMap", fn := fun _ => fun
  | [d] => { results := [.lit (.bool true)], args := [d] }
  | _ => none }
def fnARMapRow : OpenClaim := { program := "ytkgjchfbbpabpaa", sum := "67648c244ccad607952def8192aa60ebc9bffd94d1a1e1136b6ae685e83146bc", func := "given.example/pub-clapboard/laws.FnARMap", spec := "fnARMap", unfollowed := true, recurses := true, apart := false }
def FnARMapSaid : Prop := fnARMapRow.holds Try.pinned (OpenSpec.ofChange fnARMapSpec)

/-- ITS FALSE NEIGHBOUR: 'it returns false'. Refute it at one input. -/
def fnARMapWrong : ChangeSpec := { name := "fnARMap", fn := fun _ => fun
  | [d] => { results := [.lit (.bool false)], args := [d] }
  | _ => none }
def FnARMapWrongFalsely : Prop := fnARMapRow.holds Try.pinned (OpenSpec.ofChange fnARMapWrong)

/-- 'laws.FnARNull': WHATEVER THE INPUT: true; the input reads as it did. -/
def fnARNullSpec : ChangeSpec := { name := "fnARNull", fn := fun _ => fun
  | [d] => { results := [.lit (.bool true)], args := [d] }
  | _ => none }
def fnARNullRow : OpenClaim := { program := "ytkgjchfbbpabpaa", sum := "67648c244ccad607952def8192aa60ebc9bffd94d1a1e1136b6ae685e83146bc", func := "given.example/pub-clapboard/laws.FnARNull", spec := "fnARNull", unfollowed := true, recurses := true, apart := false }
def FnARNullSaid : Prop := fnARNullRow.holds Try.pinned (OpenSpec.ofChange fnARNullSpec)

/-- ITS FALSE NEIGHBOUR: 'it returns false'. Refute it at one input. -/
def fnARNullWrong : ChangeSpec := { name := "fnARNull", fn := fun _ => fun
  | [d] => { results := [.lit (.bool false)], args := [d] }
  | _ => none }
def FnARNullWrongFalsely : Prop := fnARNullRow.holds Try.pinned (OpenSpec.ofChange fnARNullWrong)

/- THE SECOND FORM. 'bulk': how many values and letters a reading holds, each counted each time it is reached (what is shared counts as often as it is met; a slice's spare places count too). A statement '..UptoSaid' is the law's where the arguments, and the package variables that the reading takes, are together of bulk at most 1048576: NARROWER than '..Said'. Prove '..Said' where nothing that the law and all that it calls make is longer than what came in: it says more and counts as full. Else prove '..UptoSaid'. A law counts once. -/
mutual
def uptoBulk {H : Type} : DataW H → Nat
  | .lit (.string bytes) => bytes.length + 1
  | .lit _ => 1
  | .nil => 1
  | .ptr d => uptoBulk d + 1
  | .slice elems spare => uptoBulkAll elems + uptoBulkAll spare + 1
  | .agg parts => uptoBulkAll parts + 1
  | .iface _ d => uptoBulk d + 1
  | .map entries => uptoBulkEntries entries + 1
  | .held _ => 1
def uptoBulkAll {H : Type} : List (DataW H) → Nat
  | [] => 0
  | d :: r => uptoBulk d + uptoBulkAll r
def uptoBulkEntries {H : Type} : List (Lit × DataW H) → Nat
  | [] => 0
  | x :: r => uptoBulkEntry x + uptoBulkEntries r
def uptoBulkEntry {H : Type} : Lit × DataW H → Nat
  | (.string bytes, d) => bytes.length + uptoBulk d + 1
  | (_, d) => uptoBulk d + 1
 end
def uptoSmall : (H : Type) → List (DataW H) → Bool := fun _ ds => decide (uptoBulkAll ds ≤ 1048576)
def OpenSpec.upto (s : _root_.Go.ChangeSpec) : _root_.Go.OpenSpec := { _root_.Go.OpenSpec.ofChange s with cond := some uptoSmall }

/-- 'laws.FnARStr', WHERE WHAT IT READS IS OF BULK AT MOST 1048576: true; the input reads as it did. -/
def fnARStrUptoRow : OpenClaim := { program := "ytkgjchfbbpabpaa", sum := "67648c244ccad607952def8192aa60ebc9bffd94d1a1e1136b6ae685e83146bc", func := "given.example/pub-clapboard/laws.FnARStr", spec := "fnARStr", unfollowed := true, recurses := true, apart := false, narrowed := true }
def FnARStrUptoSaid : Prop := fnARStrUptoRow.holds Try.pinned (OpenSpec.upto fnARStrSpec)

/-- 'laws.FnARMap', WHERE WHAT IT READS IS OF BULK AT MOST 1048576: true; the input reads as it did. -/
def fnARMapUptoRow : OpenClaim := { program := "ytkgjchfbbpabpaa", sum := "67648c244ccad607952def8192aa60ebc9bffd94d1a1e1136b6ae685e83146bc", func := "given.example/pub-clapboard/laws.FnARMap", spec := "fnARMap", unfollowed := true, recurses := true, apart := false, narrowed := true }
def FnARMapUptoSaid : Prop := fnARMapUptoRow.holds Try.pinned (OpenSpec.upto fnARMapSpec)

/-- 'laws.FnARNull', WHERE WHAT IT READS IS OF BULK AT MOST 1048576: true; the input reads as it did. -/
def fnARNullUptoRow : OpenClaim := { program := "ytkgjchfbbpabpaa", sum := "67648c244ccad607952def8192aa60ebc9bffd94d1a1e1136b6ae685e83146bc", func := "given.example/pub-clapboard/laws.FnARNull", spec := "fnARNull", unfollowed := true, recurses := true, apart := false, narrowed := true }
def FnARNullUptoSaid : Prop := fnARNullUptoRow.holds Try.pinned (OpenSpec.upto fnARNullSpec)

end Rows
end Go.Proofs.Ytkgjchfbbpabpaa
