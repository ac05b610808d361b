/- The law FnPRCut of package laws holds for every input: of bytes that are cut off all values that are whole are read again, and no others -/
import Derived.Test.YthfoleapdmpdfaaDoorRows
import Derived.WalkKit
import Derived.ProofKit
import Derived.OpenShut
import Derived.ShutString
import Derived.ChangeOld
import Derived.ChangeSame
import Derived.ChangeVars
import Derived.WideKeyArgs
import Derived.Below
import Derived.LaidMore
import Derived.Stop.Joined
import Derived.SevenTiedAt
import Derived.Test.YthfoleapdmpdfaaDoorTie
import Derived.Test.YthfoleapdmpdfaaDoorCards
import Derived.Test.YthfoleapdmpdfaaDoorQj
import Derived.Test.YthfoleapdmpdfaaDoorPrm
import Derived.Test.YthfoleapdmpdfaaDoorRow
namespace Go.Proofs.YthfoleapdmpdfaaDoor.fnPRCut
open Go.ChangeShapes Go.WideShapes Go.ChangeAt Go.RowKit
open Go.ChangeMaps (open_string shut_string)
set_option linter.unusedVariables false

theorem own : ownKnob Tryd.prog.godebug = none := by kernel_rfl
theorem laidOut : laidOutB Tryd.prog = true := by kernel_rfl
def IsRow (k : IntKind) (w : World) (a : Option Addr) (len cap : Nat) (zs : List Int) : Prop :=
  (a = none ∧ len = 0 ∧ cap = 0 ∧ zs = []) ∨
  ∃ x, a = some x ∧ len ≤ cap ∧ cap ≤ maxLen ∧ zs.length = cap ∧ (∀ i, i < zs.length → w.cell? (x.add i) = some (.int k (zs.getD i 0))) ∧ ∀ n ∈ zs, (Lit.int k n).wf = true
def IsRows (k : IntKind) (w : World) (a : Option Addr) (len cap : Nat) : Prop :=
  (a = none ∧ len = 0 ∧ cap = 0) ∨
  ∃ x, a = some x ∧ len ≤ cap ∧ cap ≤ maxLen ∧ ∀ r, r < len → ∃ (A : Option Addr) (L C : Nat) (Z : List Int), w.cell? (x.add r) = some (.slice A L C) ∧ IsRow k w A L C Z
def IsAsks (w : World) (a : Option Addr) (len cap : Nat) (L : List PAsk) : Prop := len ≤ cap ∧ cap ≤ maxLen ∧ AsksAt w a len L ∧ ∀ p ∈ L, p.s.length ≤ maxLen ∧ p.u < 18446744073709551616 ∧ 0 ≤ p.v ∧ p.v < 18446744073709551616

theorem walk (a0 : Option Addr) (len0 cap0 : Nat) (z0 : List PAsk) (a1 : Int) (w : World) (w0 : IsAsks w a0 len0 cap0 z0) (w1 : (Lit.int .u16 a1).wf = true) (hL : laidMetH Tryd.prog Rows.fnPRCutRow.laid w) :
    Calls Tryd.prog 4 #[.slice a0 len0 cap0, .int .u16 a1] w fun e w' => e = .returned (.bool true) ∧ Below w.heap.size w w' := by
  have e : laidMet Tryd.prog [("given.example/pub-clapboard/spec.prWidths", .agg (prW.map fun z => .lit (.int .i64 z)))] w := by
    have hf := hL.filter (fun x => x.1 == "given.example/pub-clapboard/spec.prWidths")
    rw [show (Rows.fnPRCutRow.laid.filter fun x => x.1 == "given.example/pub-clapboard/spec.prWidths") = [("given.example/pub-clapboard/spec.prWidths", Rows.laid_given_example_pub_clapboard_spec_prWidths)] by rfl] at hf
    exact hf
  obtain ⟨h1, h2, h3, h4⟩ := w0
  simp only [maxLen] at h2 h4
  obtain ⟨m, rfl, hm⟩ : ∃ m : Nat, a1 = (m : Int) ∧ m < 65536 := by
    have hmin : IntKind.u16.min = 0 := by decide
    have hmax : IntKind.u16.max = 65535 := by decide
    simp [Lit.wf] at w1
    exact ⟨a1.toNat, by omega, by omega⟩
  exact pcWalk w (widths_laid e) a0 len0 cap0 z0 h3 h1 (by omega) (fun a ha => by have := (h4 a ha).1; omega) (fun a ha => (h4 a ha).2) m hm

theorem door_met (os : Os) (args : Array Value) : laidMetH Tryd.prog Rows.fnPRCutRow.laid ((World.doorLaid Tryd.prog 33 os).forCall (fun _ _ => 0) ⟨#[], args, []⟩).memory :=
  laidMetH_of_parts3 (fuel := 8) (laidMet_of_run' 8 (by kernel_rfl) (by kernel_rfl)) (by kernel_rfl) (by kernel_rfl)
set_option maxRecDepth 100000 in
theorem lifted (os : Os) (started : os.Started) (H : Type) (enc : TypeId × Value → H) :
    ReturnsInHanded {} Tryd.checked os 4 .any (fun w args => (Rows.fnPRCutSpec.pre enc Tryd.prog Tryd.f4 [] false w args ∧ laidMetH Tryd.prog Rows.fnPRCutRow.laid w) ∧ sizedMet enc Tryd.prog Tryd.f4 (OpenSpec.ofChange Rows.fnPRCutSpec) false w args) (Rows.fnPRCutSpec.post enc Tryd.prog Tryd.f4 false true false false) := by
  refine returnsInHanded_of_change_and (C := Tryd.checked) (X := fun w _ => laidMetH Tryd.prog Rows.fnPRCutRow.laid w) (fun _ _ _ hh h => h.of_heap hh) own started (by kernel_rfl) Tryd.func4
    (ChangeSpec.witness_shaped (enc := enc) (C := Tryd.checked) (os := os) (X := fun w _ => laidMetH Tryd.prog Rows.fnPRCutRow.laid w) false (World.doorLaid Tryd.prog 33 os) #[.slice none 0 0, .int .u16 0] 8 rfl (World.shaped_of_RefB (by kernel_rfl) (by kernel_rfl)) (by kernel_rfl) (by kernel_rfl) (by kernel_rfl) (door_met os _)) ?_
  intro W base args ds gs before hval0 hW _ _ hL _
  have hval : ∀ (j : Nat) t v, Tryd.f4.params[j]? = some t → args[j]? = some v → Value.okWide Tryd.prog W .any base t v := hval0
  have hW' := hW
  obtain ⟨p, q, hA0, hV, rfl, hfz, hnd⟩ := hW
  have hA : DataW.TrodAll enc Tryd.prog W 0 (fun _ => true) true Tryd.f4.params.toList args.toList ds p := hA0
  rw [Tryd.params4] at hA hval
  obtain ⟨v0, vs0, d0, ds0, p0, q0, hargs, rfl, rfl, h0, r0⟩ := trodAll_cons hA
  obtain ⟨v1, vs1, d1, ds1, p1, q1, rfl, rfl, rfl, h1, r1⟩ := trodAll_cons r0
  obtain ⟨rfl, rfl, rfl⟩ := trodAll_nil r1
  obtain rfl : args = #[v0, v1] := by cases args; simp_all
  have hlt := DataW.TrodVars.lt hV
  obtain ⟨g, t, cs, fuel, d, p', rfl, hg, ht, hvar, hd, rfl⟩ := trodVars_one hV
  have hgl : g < W.heap.size := by
    unfold World.var? at hvar
    rw [hg] at hvar
    rcases Nat.lt_or_ge g W.heap.size with h | h
    · exact h
    · simp [Array.getElem?_eq_none h] at hvar
  have k0 := h0
  have lt0 : ∀ x ∈ p0, x.block < W.heap.size := by obtain ⟨m, hm⟩ := k0; exact DataW.trod_lt m _ _ _ hm
  have k1 := h1
  have lt1 : ∀ x ∈ p1, x.block < W.heap.size := by obtain ⟨m, hm⟩ := k1; exact DataW.trod_lt m _ _ _ hm
  obtain ⟨a0, len0, cap0, rfl⟩ := okWide_slice Tryd.underlying23 (hval 0 23 v0 rfl rfl)
  obtain ⟨z0, w0⟩ : ∃ z, IsAsks W a0 len0 cap0 z := by
    obtain ⟨fuel, hf⟩ := h0
    obtain ⟨A, n, c, L, hcs, h1, h2, h3, h4⟩ := prims_of_trodV hf
    simp [Value.cells] at hcs
    obtain ⟨rfl, rfl, rfl⟩ := hcs
    exact ⟨L, h1, h2, h3, h4⟩
  obtain ⟨a1, rfl, rfl, rfl, w1⟩ := open_int Tryd.underlying39 (hval 1 39 v1 rfl rfl) h1
  clear hA0 hval0
  refine (walk a0 len0 cap0 z0 a1 W w0 w1 hL).mono fun e W' ⟨he, bel⟩ => ?_
  subst he
  have hg1 : Tryd.prog.globalNamed "given.example/pub-clapboard/spec.prWidths" = some g := hg
  have hvar1 : World.var? Tryd.prog W "given.example/pub-clapboard/spec.prWidths" = some cs := hvar
  have hv' : World.var? Tryd.prog W' "given.example/pub-clapboard/spec.prWidths" = some cs := by
    unfold World.var? at hvar1 ⊢
    rw [hg1] at hvar1 ⊢
    simp only [Option.bind_some] at hvar1 ⊢
    rw [bel.block g hgl]
    exact hvar1
  have ht' := ht
  obtain rfl := Option.some.inj ((show Tryd.prog.globalNamed "given.example/pub-clapboard/spec.prWidths" = some 1 by kernel_rfl).symm.trans hg)
  obtain rfl := Option.some.inj ((show (Tryd.prog.globals[1]?).map (·.type) = some 96 by kernel_rfl).symm.trans ht)
  have hst : ∀ sp : Nat → Bool, (∀ x ∈ p', sp x.block = true) → DataW.trod enc Tryd.prog W' 0 sp true fuel 96 cs.toList = some (d, p') := fun sp hsp =>
    DataW.trod_stays (kids_book laidOut (by kernel_rfl)) (book_sized (by kernel_rfl)) (fun h => by cases h) ⟨of_decide_eq_true (by kernel_rfl), book_self 96⟩ hd (fun x hx => bel.same (hlt x (List.mem_append_right _ hx))) hsp
  exact ⟨_, rfl, _, _, _, [], _, _, hW', trodAll_mk1 (shut_bool Tryd.underlying4 _), (trodAll_cons_mk (Below.trod laidOut (by kernel_rfl) (of_decide_eq_true (by kernel_rfl)) k0 bel lt0) (trodAll_cons_mk (Below.trod laidOut (by kernel_rfl) (of_decide_eq_true (by kernel_rfl)) k1 bel lt1) trodAll_mk0)), trodVars_mk1 hg ht' hv' (hst _ (fun x hx => by simpa using hlt x (List.mem_append_right _ hx))), bel.frame _, fun h => by cases h⟩

theorem over : Rows.fnPRCutRow.holds Tryd.pinned (OpenSpec.ofChange Rows.fnPRCutSpec) :=
  OpenClaim.holds_of_wide 4 Tryd.f4 rfl rfl rfl rfl rfl rfl rfl ⟨rfl, rfl, rfl, rfl, rfl⟩ rfl rfl rfl rfl rfl (by kernel_rfl) Tryd.func4 (by kernel_rfl)
    (of_decide_eq_true (by kernel_rfl)) (by unfold Func.isWrapper; first | (rw [if_pos (by decide +kernel)]; kernel_rfl) | (rw [if_neg (by decide +kernel)]; exact ⟨rfl, rfl⟩))
    (fun os started H enc _ => lifted os started H enc)

theorem proved : Rows.FnPRCutCardSaid :=
  Claim7.holds_tied_plain_at .later [] [.data] true (true, "21d87c1ec4a0755f6faebb7aa80d827e0e319964d640ee02a56aa9106aaaafa5") true
    over (fun _ h => by cases h) (by kernel_rfl) (fun _ h => by cases h) fnPRCut_row_tie rfl ⟨rfl, rfl⟩ (by kernel_rfl) rfl
    (fun f fn hf hfn => by
      obtain rfl : f = 4 := Option.some.inj ((show Tryd.prog.funcNamed "given.example/pub-clapboard/laws.FnPRCut" = some 4 by kernel_rfl).symm.trans hf) |>.symm
      obtain rfl : fn = Tryd.f4 := (Option.some.inj (Tryd.func4.symm.trans hfn)).symm
      exact ⟨by kernel_rfl, fun j t ht => by
        rw [Tryd.params4] at ht
        have hm : t ∈ [23, 39] := by simpa using Array.mem_of_getElem? ht
        have hall : ([23, 39].all fun u => !Tryd.prog.wantsStandIn u) = true := by kernel_rfl
        exact (show Tryd.prog.wantsStandIn t = false by simpa using List.all_eq_true.1 hall t hm)⟩)
    (by kernel_rfl)
#print axioms proved
end Go.Proofs.YthfoleapdmpdfaaDoor.fnPRCut
