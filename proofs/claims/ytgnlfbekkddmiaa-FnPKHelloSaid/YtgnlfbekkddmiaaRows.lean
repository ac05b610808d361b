/-
  No cell of these rows narrows 'for every input' (looked for: loops, veiled, ifaces, maps, wideKeys, modest, calm, conditions, laid).
  DERIVED. THE GIVEN ROWS OF THIS SEAT. 2 by the template 'for every input the law returns true; each argument reads behind the call as it read before'; 0 by the template 'total and deterministic' (their statements: YtgnlfbekkddmiaaTotals.lean).
  GIVEN WITH THE SEED: the statements are not yours to turn. If you find one false, say at which input.
  Laid BY PROGRAM, IN A SANDBOX (cutbox-rows.mjs): the forced cells as the released guide's own fill.sh prints them over the translation 4d1607b0f8156f5d… (all of the seat's roots in one cut). By AI agents, Wed Nov 11 2026. No macro, syntax, notation, axiom, sorry.
-/
import Derived.Test.YtgnlfbekkddmiaaChecked
import GoSem.Claim
import GoSem.ClaimJoined
import GoSem.ClaimMapViews
import Derived.JoinedTies
import Derived.KernelRfl
namespace Go.Proofs.Ytgnlfbekkddmiaa
/- THE CELL 'sum', in the pinned program and in every row, IS THE sha256 OF THE DUMP (.gsa) THAT YtgnlfbekkddmiaaProg.lean LOADS. Nothing in Lean hashes anything: it is a label: what it is worth is what the hold of that sum in a sandbox is worth. -/
noncomputable def Try.pinned : Pinned := { name := "ytgnlfbekkddmiaa", sum := "4d1607b0f8156f5da5b79b34cb31c04d5c08d2f4c1bcf91a126a172bd258c8b2", checked := Try.checked }
namespace Rows
def none {H : Type} : Left H := { results := [], args := [] }

/-- 'laws.FnPKParameter': WHATEVER THE INPUT: true; the input reads as it did. -/
def fnPKParameterSpec : ChangeSpec := { name := "fnPKParameter", fn := fun _ => fun
  | [d1, d2, d3, d4] => { results := [.lit (.bool true)], args := [d1, d2, d3, d4] }
  | _ => none }
def fnPKParameterRow : OpenClaim := { program := "ytgnlfbekkddmiaa", sum := "4d1607b0f8156f5da5b79b34cb31c04d5c08d2f4c1bcf91a126a172bd258c8b2", func := "given.example/pub-clapboard/laws.FnPKParameter", spec := "fnPKParameter", unfollowed := true, recurses := true, apart := false }
def FnPKParameterSaid : Prop := fnPKParameterRow.holds Try.pinned (OpenSpec.ofChange fnPKParameterSpec)

/-- ITS FALSE NEIGHBOUR: 'it returns false'. Refute it at one input. -/
def fnPKParameterWrong : ChangeSpec := { name := "fnPKParameter", fn := fun _ => fun
  | [d1, d2, d3, d4] => { results := [.lit (.bool false)], args := [d1, d2, d3, d4] }
  | _ => none }
def FnPKParameterWrongFalsely : Prop := fnPKParameterRow.holds Try.pinned (OpenSpec.ofChange fnPKParameterWrong)

/-- 'laws.FnPKHello': WHATEVER THE INPUT: true; the input reads as it did. -/
def fnPKHelloSpec : ChangeSpec := { name := "fnPKHello", fn := fun _ => fun
  | [d1, d2, d3] => { results := [.lit (.bool true)], args := [d1, d2, d3] }
  | _ => none }
def fnPKHelloRow : OpenClaim := { program := "ytgnlfbekkddmiaa", sum := "4d1607b0f8156f5da5b79b34cb31c04d5c08d2f4c1bcf91a126a172bd258c8b2", func := "given.example/pub-clapboard/laws.FnPKHello", spec := "fnPKHello", unfollowed := true, recurses := true, apart := false }
def FnPKHelloSaid : Prop := fnPKHelloRow.holds Try.pinned (OpenSpec.ofChange fnPKHelloSpec)

/-- ITS FALSE NEIGHBOUR: 'it returns false'. Refute it at one input. -/
def fnPKHelloWrong : ChangeSpec := { name := "fnPKHello", fn := fun _ => fun
  | [d1, d2, d3] => { results := [.lit (.bool false)], args := [d1, d2, d3] }
  | _ => none }
def FnPKHelloWrongFalsely : Prop := fnPKHelloRow.holds Try.pinned (OpenSpec.ofChange fnPKHelloWrong)

/- THE SECOND FORM. 'bulk': how many values and letters a reading holds, each counted each time it is reached (what is shared counts as often as it is met; a slice's spare places count too). A statement '..UptoSaid' is the law's where the arguments, and the package variables that the reading takes, are together of bulk at most 1048576: NARROWER than '..Said'. Prove '..Said' where nothing that the law and all that it calls make is longer than what came in: it says more and counts as full. Else prove '..UptoSaid'. A law counts once. -/
mutual
def uptoBulk {H : Type} : DataW H → Nat
  | .lit (.string bytes) => bytes.length + 1
  | .lit _ => 1
  | .nil => 1
  | .ptr d => uptoBulk d + 1
  | .slice elems spare => uptoBulkAll elems + uptoBulkAll spare + 1
  | .agg parts => uptoBulkAll parts + 1
  | .iface _ d => uptoBulk d + 1
  | .map entries => uptoBulkEntries entries + 1
  | .held _ => 1
def uptoBulkAll {H : Type} : List (DataW H) → Nat
  | [] => 0
  | d :: r => uptoBulk d + uptoBulkAll r
def uptoBulkEntries {H : Type} : List (Lit × DataW H) → Nat
  | [] => 0
  | x :: r => uptoBulkEntry x + uptoBulkEntries r
def uptoBulkEntry {H : Type} : Lit × DataW H → Nat
  | (.string bytes, d) => bytes.length + uptoBulk d + 1
  | (_, d) => uptoBulk d + 1
 end
def uptoSmall : (H : Type) → List (DataW H) → Bool := fun _ ds => decide (uptoBulkAll ds ≤ 1048576)
def OpenSpec.upto (s : _root_.Go.ChangeSpec) : _root_.Go.OpenSpec := { _root_.Go.OpenSpec.ofChange s with cond := some uptoSmall }

/-- 'laws.FnPKParameter', WHERE WHAT IT READS IS OF BULK AT MOST 1048576: true; the input reads as it did. -/
def fnPKParameterUptoRow : OpenClaim := { program := "ytgnlfbekkddmiaa", sum := "4d1607b0f8156f5da5b79b34cb31c04d5c08d2f4c1bcf91a126a172bd258c8b2", func := "given.example/pub-clapboard/laws.FnPKParameter", spec := "fnPKParameter", unfollowed := true, recurses := true, apart := false, narrowed := true }
def FnPKParameterUptoSaid : Prop := fnPKParameterUptoRow.holds Try.pinned (OpenSpec.upto fnPKParameterSpec)

/-- 'laws.FnPKHello', WHERE WHAT IT READS IS OF BULK AT MOST 1048576: true; the input reads as it did. -/
def fnPKHelloUptoRow : OpenClaim := { program := "ytgnlfbekkddmiaa", sum := "4d1607b0f8156f5da5b79b34cb31c04d5c08d2f4c1bcf91a126a172bd258c8b2", func := "given.example/pub-clapboard/laws.FnPKHello", spec := "fnPKHello", unfollowed := true, recurses := true, apart := false, narrowed := true }
def FnPKHelloUptoSaid : Prop := fnPKHelloUptoRow.holds Try.pinned (OpenSpec.upto fnPKHelloSpec)

end Rows
end Go.Proofs.Ytgnlfbekkddmiaa
