/- The law FnCTQBit of package laws holds for every input: the type of vectors is read as its type of elements and its dimension. -/
import Derived.Test.YtlkaofhdllkgfaaDoorRows
import Derived.WalkKit
import Derived.ProofKit
import Derived.OpenShut
import Derived.ShutString
import Derived.ChangeOld
import Derived.ChangeSame
import Derived.Below
import Derived.LaidMore
import Derived.Lay
import Derived.MakeChecks
import Derived.Stop.Joined
import Derived.SevenTiedAt
import Derived.Test.YtlkaofhdllkgfaaDoorTie
import Derived.Test.YtlkaofhdllkgfaaDoorCards
import Derived.Test.YtlkaofhdllkgfaaDoorLCtQ
namespace Go.Proofs.YtlkaofhdllkgfaaDoor.fnCTQBit
open Go.ChangeShapes Go.WideShapes Go.ChangeAt Go.RowKit
open Go.ChangeMaps (open_string shut_string)
set_option linter.unusedVariables false

theorem own : ownKnob Tryd.prog.godebug = none := by kernel_rfl
theorem laidOut : laidOutB Tryd.prog = true := by kernel_rfl
def IsRow (k : IntKind) (w : World) (a : Option Addr) (len cap : Nat) (zs : List Int) : Prop :=
  (a = none ∧ len = 0 ∧ cap = 0 ∧ zs = []) ∨
  ∃ x, a = some x ∧ len ≤ cap ∧ cap ≤ maxLen ∧ zs.length = cap ∧ (∀ i, i < zs.length → w.cell? (x.add i) = some (.int k (zs.getD i 0))) ∧ ∀ n ∈ zs, (Lit.int k n).wf = true
def IsRows (k : IntKind) (w : World) (a : Option Addr) (len cap : Nat) : Prop :=
  (a = none ∧ len = 0 ∧ cap = 0) ∨
  ∃ x, a = some x ∧ len ≤ cap ∧ cap ≤ maxLen ∧ ∀ r, r < len → ∃ (A : Option Addr) (L C : Nat) (Z : List Int), w.cell? (x.add r) = some (.slice A L C) ∧ IsRow k w A L C Z

theorem walk (a0 : Int) (a1 : Int) (w : World) (w0 : (Lit.int .u8 a0).wf = true) (w1 : (Lit.int .u16 a1).wf = true) (hL : laidMetH Tryd.prog Rows.fnCTQBitRow.laid w) :
    Calls Tryd.prog 3 #[.int .u8 a0, .int .u16 a1] w fun e w' => e = .returned (.bool true) ∧ Below w.heap.size w w' := by
  have e : (Rows.fnCTQBitRow.laid.filter fun x => x.1 == "strings.asciiSpace") = [("strings.asciiSpace", Lib.tabData .u8 Lib.asciiSpaceTab)] := by kernel_rfl
  have hf := hL.filter (fun x => x.1 == "strings.asciiSpace")
  rw [e] at hf
  exact ctqWalk w a0 a1 (by have := bounds_u8 w0; omega) (by have := bounds_u8 w0; omega) (by have := bounds_u16 w1; omega) (by have := bounds_u16 w1; omega) (spaceV_met hf)

set_option maxRecDepth 100000 in
theorem lifted (os : Os) (started : os.Started) (H : Type) (enc : TypeId × Value → H) :
    ReturnsInHanded {} Tryd.checked os 3 .any (fun w args => (Rows.fnCTQBitSpec.pre enc Tryd.prog Tryd.f3 [] false w args ∧ laidMetH Tryd.prog Rows.fnCTQBitRow.laid w) ∧ sizedMet enc Tryd.prog Tryd.f3 (OpenSpec.ofChange Rows.fnCTQBitSpec) false w args) (Rows.fnCTQBitSpec.post enc Tryd.prog Tryd.f3 false true false false) := by
  refine returnsInHanded_of_change_and (C := Tryd.checked) (X := fun w _ => laidMetH Tryd.prog Rows.fnCTQBitRow.laid w) (fun _ _ _ hh h => h.of_heap hh) own started (by kernel_rfl) Tryd.func3
    (ChangeSpec.witness_shaped (enc := enc) (C := Tryd.checked) (os := os) (X := fun w _ => laidMetH Tryd.prog Rows.fnCTQBitRow.laid w) false (World.laidAll Tryd.prog os Rows.fnCTQBitRow.laid) #[.int .u8 0, .int .u16 0] 8 (World.laidAll_os _ _ _) (World.shaped_of_ZipB (by kernel_rfl) (by kernel_rfl)) (by kernel_rfl) (by kernel_rfl) (by kernel_rfl) (by rw [MakeChecks.laidMetH_plain _ _ _ (by kernel_rfl)]; exact laidMet_laidAll _ (by kernel_rfl) (by kernel_rfl))) ?_
  intro W base args ds gs before hval0 hW _ _ hL _
  have hval : ∀ (j : Nat) t v, Tryd.f3.params[j]? = some t → args[j]? = some v → Value.okWide Tryd.prog W .any base t v := hval0
  have hW' := hW
  obtain ⟨p, q, hA0, hV, rfl, hfz, hnd⟩ := hW
  have hA : DataW.TrodAll enc Tryd.prog W 0 (fun _ => true) true Tryd.f3.params.toList args.toList ds p := hA0
  rw [Tryd.params3] at hA hval
  obtain ⟨v0, vs0, d0, ds0, p0, q0, hargs, rfl, rfl, h0, r0⟩ := trodAll_cons hA
  obtain ⟨v1, vs1, d1, ds1, p1, q1, rfl, rfl, rfl, h1, r1⟩ := trodAll_cons r0
  obtain ⟨rfl, rfl, rfl⟩ := trodAll_nil r1
  obtain rfl : args = #[v0, v1] := by cases args; simp_all
  obtain ⟨rfl, rfl⟩ := trodVars_none hV
  have k0 := h0
  have lt0 : ∀ x ∈ p0, x.block < W.heap.size := by obtain ⟨m, hm⟩ := k0; exact DataW.trod_lt m _ _ _ hm
  have k1 := h1
  have lt1 : ∀ x ∈ p1, x.block < W.heap.size := by obtain ⟨m, hm⟩ := k1; exact DataW.trod_lt m _ _ _ hm
  obtain ⟨a0, rfl, rfl, rfl, w0⟩ := open_int Tryd.underlying5 (hval 0 5 v0 rfl rfl) h0
  obtain ⟨a1, rfl, rfl, rfl, w1⟩ := open_int Tryd.underlying22 (hval 1 22 v1 rfl rfl) h1
  clear hA0 hval0
  refine (walk a0 a1 W w0 w1 hL).mono fun e W' ⟨he, bel⟩ => ?_
  subst he
  exact ⟨_, rfl, _, _, _, [], _, [], hW', trodAll_mk1 (shut_bool Tryd.underlying4 _), (trodAll_cons_mk (Below.trod laidOut (by kernel_rfl) (of_decide_eq_true (by kernel_rfl)) k0 bel lt0) (trodAll_cons_mk (Below.trod laidOut (by kernel_rfl) (of_decide_eq_true (by kernel_rfl)) k1 bel lt1) trodAll_mk0)), rfl, bel.frame _, fun h => by cases h⟩

theorem over : Rows.fnCTQBitRow.holds Tryd.pinned (OpenSpec.ofChange Rows.fnCTQBitSpec) :=
  OpenClaim.holds_of_wide 3 Tryd.f3 rfl rfl rfl rfl rfl rfl rfl ⟨rfl, rfl, rfl, rfl, rfl⟩ rfl rfl rfl rfl rfl (by kernel_rfl) Tryd.func3 (by kernel_rfl)
    (of_decide_eq_true (by kernel_rfl)) (by unfold Func.isWrapper; first | (rw [if_pos (by decide +kernel)]; kernel_rfl) | (rw [if_neg (by decide +kernel)]; exact ⟨rfl, rfl⟩))
    (fun os started H enc _ => lifted os started H enc)

theorem proved : Rows.FnCTQBitCardSaid :=
  Claim7.holds_tied_plain_at .later [] [.data, .data, .data, .data, .sentinel, .sentinel, .listed, .data, .pinned] true (true, "e75113fa92b34965bfbc34568f4aac61dede831b8f9bf93cf831621bcc31edcf") true
    over (fun _ h => by cases h) (by kernel_rfl) (fun _ h => by cases h) fnCTQBit_row_tie rfl ⟨rfl, rfl⟩ (by kernel_rfl) rfl
    (fun f fn hf hfn => by
      obtain rfl : f = 3 := Option.some.inj ((show Tryd.prog.funcNamed "given.example/pub-clapboard/laws.FnCTQBit" = some 3 by kernel_rfl).symm.trans hf) |>.symm
      obtain rfl : fn = Tryd.f3 := (Option.some.inj (Tryd.func3.symm.trans hfn)).symm
      exact ⟨by kernel_rfl, fun j t ht => by
        rw [Tryd.params3] at ht
        have hm : t ∈ [5, 22] := by simpa using Array.mem_of_getElem? ht
        have hall : ([5, 22].all fun u => !Tryd.prog.wantsStandIn u) = true := by kernel_rfl
        exact (show Tryd.prog.wantsStandIn t = false by simpa using List.all_eq_true.1 hall t hm)⟩)
    (by kernel_rfl)
#print axioms proved
end Go.Proofs.YtlkaofhdllkgfaaDoor.fnCTQBit
