/-
  No cell of these rows narrows 'for every input' (looked for: loops, veiled, ifaces, maps, wideKeys, modest, calm, conditions, laid).
  DERIVED. THE GIVEN ROWS OF THIS SEAT. 12 by the template 'for every input the law returns true; each argument reads behind the call as it read before'; 0 by the template 'total and deterministic' (their statements: YtllokbblmdadnaaTotals.lean).
  GIVEN WITH THE SEED: the statements are not yours to turn. If you find one false, say at which input.
  Laid BY PROGRAM, IN A SANDBOX (cutbox-rows.mjs): the forced cells as the released guide's own fill.sh prints them over the translation 5acaa7cb8b2538c3… (all of the seat's roots in one cut). By AI agents, Wed Nov 11 2026. No macro, syntax, notation, axiom, sorry.
-/
import Derived.Test.YtllokbblmdadnaaChecked
import GoSem.Claim
import GoSem.ClaimJoined
import GoSem.ClaimMapViews
import Derived.JoinedTies
import Derived.KernelRfl
namespace Go.Proofs.Ytllokbblmdadnaa
/- THE CELL 'sum', in the pinned program and in every row, IS THE sha256 OF THE DUMP (.gsa) THAT YtllokbblmdadnaaProg.lean LOADS. Nothing in Lean hashes anything: it is a label: what it is worth is what the hold of that sum in a sandbox is worth. -/
noncomputable def Try.pinned : Pinned := { name := "ytllokbblmdadnaa", sum := "5acaa7cb8b2538c3ece524655fec2ed67ccd73ecc1551f21f78cd0f1cfca8b9a", checked := Try.checked }
namespace Rows
def none {H : Type} : Left H := { results := [], args := [] }

/-- 'laws.FnDTUnix': WHATEVER THE INPUT: true; the input reads as it did. -/
def fnDTUnixSpec : ChangeSpec := { name := "fnDTUnix", fn := fun _ => fun
  | [d1, d2] => { results := [.lit (.bool true)], args := [d1, d2] }
  | _ => none }
def fnDTUnixRow : OpenClaim := { program := "ytllokbblmdadnaa", sum := "5acaa7cb8b2538c3ece524655fec2ed67ccd73ecc1551f21f78cd0f1cfca8b9a", func := "given.example/pub-clapboard/laws.FnDTUnix", spec := "fnDTUnix", apart := false }
def FnDTUnixSaid : Prop := fnDTUnixRow.holds Try.pinned (OpenSpec.ofChange fnDTUnixSpec)

/-- ITS FALSE NEIGHBOUR: 'it returns false'. Refute it at one input. -/
def fnDTUnixWrong : ChangeSpec := { name := "fnDTUnix", fn := fun _ => fun
  | [d1, d2] => { results := [.lit (.bool false)], args := [d1, d2] }
  | _ => none }
def FnDTUnixWrongFalsely : Prop := fnDTUnixRow.holds Try.pinned (OpenSpec.ofChange fnDTUnixWrong)

/-- 'laws.FnFEIn': WHATEVER THE INPUT: true; the input reads as it did. -/
def fnFEInSpec : ChangeSpec := { name := "fnFEIn", fn := fun _ => fun
  | [d1, d2] => { results := [.lit (.bool true)], args := [d1, d2] }
  | _ => none }
def fnFEInRow : OpenClaim := { program := "ytllokbblmdadnaa", sum := "5acaa7cb8b2538c3ece524655fec2ed67ccd73ecc1551f21f78cd0f1cfca8b9a", func := "given.example/pub-clapboard/laws.FnFEIn", spec := "fnFEIn", apart := false }
def FnFEInSaid : Prop := fnFEInRow.holds Try.pinned (OpenSpec.ofChange fnFEInSpec)

/-- ITS FALSE NEIGHBOUR: 'it returns false'. Refute it at one input. -/
def fnFEInWrong : ChangeSpec := { name := "fnFEIn", fn := fun _ => fun
  | [d1, d2] => { results := [.lit (.bool false)], args := [d1, d2] }
  | _ => none }
def FnFEInWrongFalsely : Prop := fnFEInRow.holds Try.pinned (OpenSpec.ofChange fnFEInWrong)

/-- 'laws.FnDTPrecision': WHATEVER THE INPUT: true; the input reads as it did. -/
def fnDTPrecisionSpec : ChangeSpec := { name := "fnDTPrecision", fn := fun _ => fun
  | [d] => { results := [.lit (.bool true)], args := [d] }
  | _ => none }
def fnDTPrecisionRow : OpenClaim := { program := "ytllokbblmdadnaa", sum := "5acaa7cb8b2538c3ece524655fec2ed67ccd73ecc1551f21f78cd0f1cfca8b9a", func := "given.example/pub-clapboard/laws.FnDTPrecision", spec := "fnDTPrecision", apart := false }
def FnDTPrecisionSaid : Prop := fnDTPrecisionRow.holds Try.pinned (OpenSpec.ofChange fnDTPrecisionSpec)

/-- ITS FALSE NEIGHBOUR: 'it returns false'. Refute it at one input. -/
def fnDTPrecisionWrong : ChangeSpec := { name := "fnDTPrecision", fn := fun _ => fun
  | [d] => { results := [.lit (.bool false)], args := [d] }
  | _ => none }
def FnDTPrecisionWrongFalsely : Prop := fnDTPrecisionRow.holds Try.pinned (OpenSpec.ofChange fnDTPrecisionWrong)

/-- 'laws.FnBFBack': WHATEVER THE INPUT: true; the input reads as it did. -/
def fnBFBackSpec : ChangeSpec := { name := "fnBFBack", fn := fun _ => fun
  | [d] => { results := [.lit (.bool true)], args := [d] }
  | _ => none }
def fnBFBackRow : OpenClaim := { program := "ytllokbblmdadnaa", sum := "5acaa7cb8b2538c3ece524655fec2ed67ccd73ecc1551f21f78cd0f1cfca8b9a", func := "given.example/pub-clapboard/laws.FnBFBack", spec := "fnBFBack", inPlace := ["math.Float32frombits", "math.Float32bits"], apart := false }
def FnBFBackSaid : Prop := fnBFBackRow.holds Try.pinned (OpenSpec.ofChange fnBFBackSpec)

/-- ITS FALSE NEIGHBOUR: 'it returns false'. Refute it at one input. -/
def fnBFBackWrong : ChangeSpec := { name := "fnBFBack", fn := fun _ => fun
  | [d] => { results := [.lit (.bool false)], args := [d] }
  | _ => none }
def FnBFBackWrongFalsely : Prop := fnBFBackRow.holds Try.pinned (OpenSpec.ofChange fnBFBackWrong)

/-- 'laws.FnWIBack': WHATEVER THE INPUT: true; the input reads as it did. -/
def fnWIBackSpec : ChangeSpec := { name := "fnWIBack", fn := fun _ => fun
  | [d1, d2, d3] => { results := [.lit (.bool true)], args := [d1, d2, d3] }
  | _ => none }
def fnWIBackRow : OpenClaim := { program := "ytllokbblmdadnaa", sum := "5acaa7cb8b2538c3ece524655fec2ed67ccd73ecc1551f21f78cd0f1cfca8b9a", func := "given.example/pub-clapboard/laws.FnWIBack", spec := "fnWIBack", apart := false }
def FnWIBackSaid : Prop := fnWIBackRow.holds Try.pinned (OpenSpec.ofChange fnWIBackSpec)

/-- ITS FALSE NEIGHBOUR: 'it returns false'. Refute it at one input. -/
def fnWIBackWrong : ChangeSpec := { name := "fnWIBack", fn := fun _ => fun
  | [d1, d2, d3] => { results := [.lit (.bool false)], args := [d1, d2, d3] }
  | _ => none }
def FnWIBackWrongFalsely : Prop := fnWIBackRow.holds Try.pinned (OpenSpec.ofChange fnWIBackWrong)

/-- 'laws.FnTMNanos': WHATEVER THE INPUT: true; the input reads as it did. -/
def fnTMNanosSpec : ChangeSpec := { name := "fnTMNanos", fn := fun _ => fun
  | [d] => { results := [.lit (.bool true)], args := [d] }
  | _ => none }
def fnTMNanosRow : OpenClaim := { program := "ytllokbblmdadnaa", sum := "5acaa7cb8b2538c3ece524655fec2ed67ccd73ecc1551f21f78cd0f1cfca8b9a", func := "given.example/pub-clapboard/laws.FnTMNanos", spec := "fnTMNanos", apart := false }
def FnTMNanosSaid : Prop := fnTMNanosRow.holds Try.pinned (OpenSpec.ofChange fnTMNanosSpec)

/-- ITS FALSE NEIGHBOUR: 'it returns false'. Refute it at one input. -/
def fnTMNanosWrong : ChangeSpec := { name := "fnTMNanos", fn := fun _ => fun
  | [d] => { results := [.lit (.bool false)], args := [d] }
  | _ => none }
def FnTMNanosWrongFalsely : Prop := fnTMNanosRow.holds Try.pinned (OpenSpec.ofChange fnTMNanosWrong)

/-- 'laws.FnCTSubs': WHATEVER THE INPUT: true; the input reads as it did. -/
def fnCTSubsSpec : ChangeSpec := { name := "fnCTSubs", fn := fun _ => fun
  | [d1, d2] => { results := [.lit (.bool true)], args := [d1, d2] }
  | _ => none }
def fnCTSubsRow : OpenClaim := { program := "ytllokbblmdadnaa", sum := "5acaa7cb8b2538c3ece524655fec2ed67ccd73ecc1551f21f78cd0f1cfca8b9a", func := "given.example/pub-clapboard/laws.FnCTSubs", spec := "fnCTSubs", inPlace := ["internal/abi.NoEscape", "internal/bytealg.MakeNoZero"], unfollowed := true, recurses := true, apart := false }
def FnCTSubsSaid : Prop := fnCTSubsRow.holds Try.pinned (OpenSpec.ofChange fnCTSubsSpec)

/-- ITS FALSE NEIGHBOUR: 'it returns false'. Refute it at one input. -/
def fnCTSubsWrong : ChangeSpec := { name := "fnCTSubs", fn := fun _ => fun
  | [d1, d2] => { results := [.lit (.bool false)], args := [d1, d2] }
  | _ => none }
def FnCTSubsWrongFalsely : Prop := fnCTSubsRow.holds Try.pinned (OpenSpec.ofChange fnCTSubsWrong)

/-- 'laws.FnSTNothing': WHATEVER THE INPUT: true; the input reads as it did. -/
def fnSTNothingSpec : ChangeSpec := { name := "fnSTNothing", fn := fun _ => fun
  | [d1, d2] => { results := [.lit (.bool true)], args := [d1, d2] }
  | _ => none }
def fnSTNothingRow : OpenClaim := { program := "ytllokbblmdadnaa", sum := "5acaa7cb8b2538c3ece524655fec2ed67ccd73ecc1551f21f78cd0f1cfca8b9a", func := "given.example/pub-clapboard/laws.FnSTNothing", spec := "fnSTNothing", unfollowed := true, recurses := true, apart := false }
def FnSTNothingSaid : Prop := fnSTNothingRow.holds Try.pinned (OpenSpec.ofChange fnSTNothingSpec)

/-- ITS FALSE NEIGHBOUR: 'it returns false'. Refute it at one input. -/
def fnSTNothingWrong : ChangeSpec := { name := "fnSTNothing", fn := fun _ => fun
  | [d1, d2] => { results := [.lit (.bool false)], args := [d1, d2] }
  | _ => none }
def FnSTNothingWrongFalsely : Prop := fnSTNothingRow.holds Try.pinned (OpenSpec.ofChange fnSTNothingWrong)

/-- 'laws.FnCTBase': WHATEVER THE INPUT: true; the input reads as it did. -/
def fnCTBaseSpec : ChangeSpec := { name := "fnCTBase", fn := fun _ => fun
  | [d1, d2] => { results := [.lit (.bool true)], args := [d1, d2] }
  | _ => none }
def fnCTBaseRow : OpenClaim := { program := "ytllokbblmdadnaa", sum := "5acaa7cb8b2538c3ece524655fec2ed67ccd73ecc1551f21f78cd0f1cfca8b9a", func := "given.example/pub-clapboard/laws.FnCTBase", spec := "fnCTBase", inPlace := ["internal/abi.NoEscape", "internal/bytealg.MakeNoZero"], unfollowed := true, recurses := true, apart := false }
def FnCTBaseSaid : Prop := fnCTBaseRow.holds Try.pinned (OpenSpec.ofChange fnCTBaseSpec)

/-- ITS FALSE NEIGHBOUR: 'it returns false'. Refute it at one input. -/
def fnCTBaseWrong : ChangeSpec := { name := "fnCTBase", fn := fun _ => fun
  | [d1, d2] => { results := [.lit (.bool false)], args := [d1, d2] }
  | _ => none }
def FnCTBaseWrongFalsely : Prop := fnCTBaseRow.holds Try.pinned (OpenSpec.ofChange fnCTBaseWrong)

/-- 'laws.FnARReadQBit': WHATEVER THE INPUT: true; the input reads as it did. -/
def fnARReadQBitSpec : ChangeSpec := { name := "fnARReadQBit", fn := fun _ => fun
  | [d1, d2, d3, d4] => { results := [.lit (.bool true)], args := [d1, d2, d3, d4] }
  | _ => none }
def fnARReadQBitRow : OpenClaim := { program := "ytllokbblmdadnaa", sum := "5acaa7cb8b2538c3ece524655fec2ed67ccd73ecc1551f21f78cd0f1cfca8b9a", func := "given.example/pub-clapboard/laws.FnARReadQBit", spec := "fnARReadQBit", inPlace := ["math.Float32frombits", "math.Float64bits", "math.Float64frombits", "math.Float32bits"], unfollowed := true, recurses := true, apart := false }
def FnARReadQBitSaid : Prop := fnARReadQBitRow.holds Try.pinned (OpenSpec.ofChange fnARReadQBitSpec)

/-- ITS FALSE NEIGHBOUR: 'it returns false'. Refute it at one input. -/
def fnARReadQBitWrong : ChangeSpec := { name := "fnARReadQBit", fn := fun _ => fun
  | [d1, d2, d3, d4] => { results := [.lit (.bool false)], args := [d1, d2, d3, d4] }
  | _ => none }
def FnARReadQBitWrongFalsely : Prop := fnARReadQBitRow.holds Try.pinned (OpenSpec.ofChange fnARReadQBitWrong)

/-- 'laws.FnPRVars': WHATEVER THE INPUT: true; the input reads as it did. -/
def fnPRVarsSpec : ChangeSpec := { name := "fnPRVars", fn := fun _ => fun
  | [d] => { results := [.lit (.bool true)], args := [d] }
  | _ => none }
def fnPRVarsRow : OpenClaim := { program := "ytllokbblmdadnaa", sum := "5acaa7cb8b2538c3ece524655fec2ed67ccd73ecc1551f21f78cd0f1cfca8b9a", func := "given.example/pub-clapboard/laws.FnPRVars", spec := "fnPRVars", inPlace := ["math.Float32frombits", "math.Float32bits", "math.Float64frombits", "math.Float64bits"], unfollowed := true, recurses := true, named := ["encoding/binary.LittleEndian"], apart := false }
def FnPRVarsSaid : Prop := fnPRVarsRow.holds Try.pinned (OpenSpec.ofChange fnPRVarsSpec)

/-- ITS FALSE NEIGHBOUR: 'it returns false'. Refute it at one input. -/
def fnPRVarsWrong : ChangeSpec := { name := "fnPRVars", fn := fun _ => fun
  | [d] => { results := [.lit (.bool false)], args := [d] }
  | _ => none }
def FnPRVarsWrongFalsely : Prop := fnPRVarsRow.holds Try.pinned (OpenSpec.ofChange fnPRVarsWrong)

/-- 'laws.FnBKInfo': WHATEVER THE INPUT: true; the input reads as it did. -/
def fnBKInfoSpec : ChangeSpec := { name := "fnBKInfo", fn := fun _ => fun
  | [d1, d2, d3, d4] => { results := [.lit (.bool true)], args := [d1, d2, d3, d4] }
  | _ => none }
def fnBKInfoRow : OpenClaim := { program := "ytllokbblmdadnaa", sum := "5acaa7cb8b2538c3ece524655fec2ed67ccd73ecc1551f21f78cd0f1cfca8b9a", func := "given.example/pub-clapboard/laws.FnBKInfo", spec := "fnBKInfo", unfollowed := true, recurses := true, named := ["encoding/binary.LittleEndian"], apart := false }
def FnBKInfoSaid : Prop := fnBKInfoRow.holds Try.pinned (OpenSpec.ofChange fnBKInfoSpec)

/-- ITS FALSE NEIGHBOUR: 'it returns false'. Refute it at one input. -/
def fnBKInfoWrong : ChangeSpec := { name := "fnBKInfo", fn := fun _ => fun
  | [d1, d2, d3, d4] => { results := [.lit (.bool false)], args := [d1, d2, d3, d4] }
  | _ => none }
def FnBKInfoWrongFalsely : Prop := fnBKInfoRow.holds Try.pinned (OpenSpec.ofChange fnBKInfoWrong)

/- THE SECOND FORM. 'bulk': how many values and letters a reading holds, each counted each time it is reached (what is shared counts as often as it is met; a slice's spare places count too). A statement '..UptoSaid' is the law's where the arguments, and the package variables that the reading takes, are together of bulk at most 1048576: NARROWER than '..Said'. Prove '..Said' where nothing that the law and all that it calls make is longer than what came in: it says more and counts as full. Else prove '..UptoSaid'. A law counts once. -/
mutual
def uptoBulk {H : Type} : DataW H → Nat
  | .lit (.string bytes) => bytes.length + 1
  | .lit _ => 1
  | .nil => 1
  | .ptr d => uptoBulk d + 1
  | .slice elems spare => uptoBulkAll elems + uptoBulkAll spare + 1
  | .agg parts => uptoBulkAll parts + 1
  | .iface _ d => uptoBulk d + 1
  | .map entries => uptoBulkEntries entries + 1
  | .held _ => 1
def uptoBulkAll {H : Type} : List (DataW H) → Nat
  | [] => 0
  | d :: r => uptoBulk d + uptoBulkAll r
def uptoBulkEntries {H : Type} : List (Lit × DataW H) → Nat
  | [] => 0
  | x :: r => uptoBulkEntry x + uptoBulkEntries r
def uptoBulkEntry {H : Type} : Lit × DataW H → Nat
  | (.string bytes, d) => bytes.length + uptoBulk d + 1
  | (_, d) => uptoBulk d + 1
 end
def uptoSmall : (H : Type) → List (DataW H) → Bool := fun _ ds => decide (uptoBulkAll ds ≤ 1048576)
def OpenSpec.upto (s : _root_.Go.ChangeSpec) : _root_.Go.OpenSpec := { _root_.Go.OpenSpec.ofChange s with cond := some uptoSmall }

/-- 'laws.FnDTUnix', WHERE WHAT IT READS IS OF BULK AT MOST 1048576: true; the input reads as it did. -/
def fnDTUnixUptoRow : OpenClaim := { program := "ytllokbblmdadnaa", sum := "5acaa7cb8b2538c3ece524655fec2ed67ccd73ecc1551f21f78cd0f1cfca8b9a", func := "given.example/pub-clapboard/laws.FnDTUnix", spec := "fnDTUnix", apart := false, narrowed := true }
def FnDTUnixUptoSaid : Prop := fnDTUnixUptoRow.holds Try.pinned (OpenSpec.upto fnDTUnixSpec)

/-- 'laws.FnFEIn', WHERE WHAT IT READS IS OF BULK AT MOST 1048576: true; the input reads as it did. -/
def fnFEInUptoRow : OpenClaim := { program := "ytllokbblmdadnaa", sum := "5acaa7cb8b2538c3ece524655fec2ed67ccd73ecc1551f21f78cd0f1cfca8b9a", func := "given.example/pub-clapboard/laws.FnFEIn", spec := "fnFEIn", apart := false, narrowed := true }
def FnFEInUptoSaid : Prop := fnFEInUptoRow.holds Try.pinned (OpenSpec.upto fnFEInSpec)

/-- 'laws.FnDTPrecision', WHERE WHAT IT READS IS OF BULK AT MOST 1048576: true; the input reads as it did. -/
def fnDTPrecisionUptoRow : OpenClaim := { program := "ytllokbblmdadnaa", sum := "5acaa7cb8b2538c3ece524655fec2ed67ccd73ecc1551f21f78cd0f1cfca8b9a", func := "given.example/pub-clapboard/laws.FnDTPrecision", spec := "fnDTPrecision", apart := false, narrowed := true }
def FnDTPrecisionUptoSaid : Prop := fnDTPrecisionUptoRow.holds Try.pinned (OpenSpec.upto fnDTPrecisionSpec)

/-- 'laws.FnBFBack', WHERE WHAT IT READS IS OF BULK AT MOST 1048576: true; the input reads as it did. -/
def fnBFBackUptoRow : OpenClaim := { program := "ytllokbblmdadnaa", sum := "5acaa7cb8b2538c3ece524655fec2ed67ccd73ecc1551f21f78cd0f1cfca8b9a", func := "given.example/pub-clapboard/laws.FnBFBack", spec := "fnBFBack", inPlace := ["math.Float32frombits", "math.Float32bits"], apart := false, narrowed := true }
def FnBFBackUptoSaid : Prop := fnBFBackUptoRow.holds Try.pinned (OpenSpec.upto fnBFBackSpec)

/-- 'laws.FnWIBack', WHERE WHAT IT READS IS OF BULK AT MOST 1048576: true; the input reads as it did. -/
def fnWIBackUptoRow : OpenClaim := { program := "ytllokbblmdadnaa", sum := "5acaa7cb8b2538c3ece524655fec2ed67ccd73ecc1551f21f78cd0f1cfca8b9a", func := "given.example/pub-clapboard/laws.FnWIBack", spec := "fnWIBack", apart := false, narrowed := true }
def FnWIBackUptoSaid : Prop := fnWIBackUptoRow.holds Try.pinned (OpenSpec.upto fnWIBackSpec)

/-- 'laws.FnTMNanos', WHERE WHAT IT READS IS OF BULK AT MOST 1048576: true; the input reads as it did. -/
def fnTMNanosUptoRow : OpenClaim := { program := "ytllokbblmdadnaa", sum := "5acaa7cb8b2538c3ece524655fec2ed67ccd73ecc1551f21f78cd0f1cfca8b9a", func := "given.example/pub-clapboard/laws.FnTMNanos", spec := "fnTMNanos", apart := false, narrowed := true }
def FnTMNanosUptoSaid : Prop := fnTMNanosUptoRow.holds Try.pinned (OpenSpec.upto fnTMNanosSpec)

/-- 'laws.FnCTSubs', WHERE WHAT IT READS IS OF BULK AT MOST 1048576: true; the input reads as it did. -/
def fnCTSubsUptoRow : OpenClaim := { program := "ytllokbblmdadnaa", sum := "5acaa7cb8b2538c3ece524655fec2ed67ccd73ecc1551f21f78cd0f1cfca8b9a", func := "given.example/pub-clapboard/laws.FnCTSubs", spec := "fnCTSubs", inPlace := ["internal/abi.NoEscape", "internal/bytealg.MakeNoZero"], unfollowed := true, recurses := true, apart := false, narrowed := true }
def FnCTSubsUptoSaid : Prop := fnCTSubsUptoRow.holds Try.pinned (OpenSpec.upto fnCTSubsSpec)

/-- 'laws.FnSTNothing', WHERE WHAT IT READS IS OF BULK AT MOST 1048576: true; the input reads as it did. -/
def fnSTNothingUptoRow : OpenClaim := { program := "ytllokbblmdadnaa", sum := "5acaa7cb8b2538c3ece524655fec2ed67ccd73ecc1551f21f78cd0f1cfca8b9a", func := "given.example/pub-clapboard/laws.FnSTNothing", spec := "fnSTNothing", unfollowed := true, recurses := true, apart := false, narrowed := true }
def FnSTNothingUptoSaid : Prop := fnSTNothingUptoRow.holds Try.pinned (OpenSpec.upto fnSTNothingSpec)

/-- 'laws.FnCTBase', WHERE WHAT IT READS IS OF BULK AT MOST 1048576: true; the input reads as it did. -/
def fnCTBaseUptoRow : OpenClaim := { program := "ytllokbblmdadnaa", sum := "5acaa7cb8b2538c3ece524655fec2ed67ccd73ecc1551f21f78cd0f1cfca8b9a", func := "given.example/pub-clapboard/laws.FnCTBase", spec := "fnCTBase", inPlace := ["internal/abi.NoEscape", "internal/bytealg.MakeNoZero"], unfollowed := true, recurses := true, apart := false, narrowed := true }
def FnCTBaseUptoSaid : Prop := fnCTBaseUptoRow.holds Try.pinned (OpenSpec.upto fnCTBaseSpec)

/-- 'laws.FnARReadQBit', WHERE WHAT IT READS IS OF BULK AT MOST 1048576: true; the input reads as it did. -/
def fnARReadQBitUptoRow : OpenClaim := { program := "ytllokbblmdadnaa", sum := "5acaa7cb8b2538c3ece524655fec2ed67ccd73ecc1551f21f78cd0f1cfca8b9a", func := "given.example/pub-clapboard/laws.FnARReadQBit", spec := "fnARReadQBit", inPlace := ["math.Float32frombits", "math.Float64bits", "math.Float64frombits", "math.Float32bits"], unfollowed := true, recurses := true, apart := false, narrowed := true }
def FnARReadQBitUptoSaid : Prop := fnARReadQBitUptoRow.holds Try.pinned (OpenSpec.upto fnARReadQBitSpec)

/-- 'laws.FnPRVars', WHERE WHAT IT READS IS OF BULK AT MOST 1048576: true; the input reads as it did. -/
def fnPRVarsUptoRow : OpenClaim := { program := "ytllokbblmdadnaa", sum := "5acaa7cb8b2538c3ece524655fec2ed67ccd73ecc1551f21f78cd0f1cfca8b9a", func := "given.example/pub-clapboard/laws.FnPRVars", spec := "fnPRVars", inPlace := ["math.Float32frombits", "math.Float32bits", "math.Float64frombits", "math.Float64bits"], unfollowed := true, recurses := true, named := ["encoding/binary.LittleEndian"], apart := false, narrowed := true }
def FnPRVarsUptoSaid : Prop := fnPRVarsUptoRow.holds Try.pinned (OpenSpec.upto fnPRVarsSpec)

/-- 'laws.FnBKInfo', WHERE WHAT IT READS IS OF BULK AT MOST 1048576: true; the input reads as it did. -/
def fnBKInfoUptoRow : OpenClaim := { program := "ytllokbblmdadnaa", sum := "5acaa7cb8b2538c3ece524655fec2ed67ccd73ecc1551f21f78cd0f1cfca8b9a", func := "given.example/pub-clapboard/laws.FnBKInfo", spec := "fnBKInfo", unfollowed := true, recurses := true, named := ["encoding/binary.LittleEndian"], apart := false, narrowed := true }
def FnBKInfoUptoSaid : Prop := fnBKInfoUptoRow.holds Try.pinned (OpenSpec.upto fnBKInfoSpec)

end Rows
end Go.Proofs.Ytllokbblmdadnaa
