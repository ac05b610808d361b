/- The law FnPRReads of package laws holds for every input: what is read of any bytes, value by value, is what stands there, or an error, behind which nothing is read -/
import Derived.Test.YthfoleapdmpdfaaDoorRows
import Derived.WalkKit
import Derived.ProofKit
import Derived.OpenShut
import Derived.ShutString
import Derived.ChangeOld
import Derived.ChangeSame
import Derived.ChangeVars
import Derived.WideKeyArgs
import Derived.Below
import Derived.LaidMore
import Derived.Stop.Joined
import Derived.SevenTiedAt
import Derived.Test.YthfoleapdmpdfaaDoorTie
import Derived.Test.YthfoleapdmpdfaaDoorCards
import Derived.Test.YthfoleapdmpdfaaDoorLPs
import Derived.Test.YthfoleapdmpdfaaDoorPrm
import Derived.Test.YthfoleapdmpdfaaDoorRow
namespace Go.Proofs.YthfoleapdmpdfaaDoor.fnPRReads
open Go.ChangeShapes Go.WideShapes Go.ChangeAt Go.RowKit
open Go.ChangeMaps (open_string shut_string)
set_option linter.unusedVariables false

theorem own : ownKnob Tryd.prog.godebug = none := by kernel_rfl
theorem laidOut : laidOutB Tryd.prog = true := by kernel_rfl
def IsRow (k : IntKind) (w : World) (a : Option Addr) (len cap : Nat) (zs : List Int) : Prop :=
  (a = none ∧ len = 0 ∧ cap = 0 ∧ zs = []) ∨
  ∃ x, a = some x ∧ len ≤ cap ∧ cap ≤ maxLen ∧ zs.length = cap ∧ (∀ i, i < zs.length → w.cell? (x.add i) = some (.int k (zs.getD i 0))) ∧ ∀ n ∈ zs, (Lit.int k n).wf = true
def IsRows (k : IntKind) (w : World) (a : Option Addr) (len cap : Nat) : Prop :=
  (a = none ∧ len = 0 ∧ cap = 0) ∨
  ∃ x, a = some x ∧ len ≤ cap ∧ cap ≤ maxLen ∧ ∀ r, r < len → ∃ (A : Option Addr) (L C : Nat) (Z : List Int), w.cell? (x.add r) = some (.slice A L C) ∧ IsRow k w A L C Z
def IsAsks (w : World) (a : Option Addr) (len cap : Nat) (L : List PAsk) : Prop := len ≤ cap ∧ cap ≤ maxLen ∧ AsksAt w a len L ∧ ∀ p ∈ L, p.s.length ≤ maxLen

theorem walk (a0 : Option Addr) (len0 cap0 : Nat) (z0 : List Int) (a1 : Option Addr) (len1 cap1 : Nat) (z1 : List PAsk) (w : World) (w0 : IsRow .u8 w a0 len0 cap0 z0) (w1 : IsAsks w a1 len1 cap1 z1) (wb0 : ∀ i, ob a0 = some i → i < w.heap.size) (hL : laidMetH Tryd.prog Rows.fnPRReadsRow.laid w) :
    Calls Tryd.prog 3 #[.slice a0 len0 cap0, .slice a1 len1 cap1] w fun e w' => e = .returned (.bool true) ∧ Below w.heap.size w w' := by
  have e : laidMet Tryd.prog [("given.example/pub-clapboard/spec.prWidths", .agg (prW.map fun z => .lit (.int .i64 z)))] w := by
    have hf := hL.filter (fun x => x.1 == "given.example/pub-clapboard/spec.prWidths")
    rw [show (Rows.fnPRReadsRow.laid.filter fun x => x.1 == "given.example/pub-clapboard/spec.prWidths") = [("given.example/pub-clapboard/spec.prWidths", Rows.laid_given_example_pub_clapboard_spec_prWidths)] by kernel_rfl, MakeChecks.laidMetH_plain _ _ _ (by kernel_rfl)] at hf
    exact hf
  obtain ⟨l, hl, hR, hlc⟩ := row_bytes w a0 len0 cap0 z0 w0
  have hm : len0 ≤ maxLen := by
    rcases w0 with ⟨_, h, _⟩ | ⟨_, _, h, h', _⟩ <;> omega
  obtain ⟨h1, h2, h3, h4⟩ := w1
  simp only [maxLen] at hm h2 h4
  exact psWalk w (widths_laid e) a0 len0 cap0 l hl (by omega) hlc hR wb0 a1 len1 cap1 z1 h3 (by omega) (fun a ha => by have := h4 a ha; omega)

theorem door_met (os : Os) (args : Array Value) : laidMetH Tryd.prog Rows.fnPRReadsRow.laid ((World.doorLaid Tryd.prog 33 os).forCall (fun _ _ => 0) ⟨#[], args, []⟩).memory :=
  laidMetH_of_parts3 (fuel := 8) (laidMet_of_run' 8 (by kernel_rfl) (by kernel_rfl)) (by kernel_rfl) (by kernel_rfl)
set_option maxRecDepth 100000 in
theorem lifted (os : Os) (started : os.Started) (H : Type) (enc : TypeId × Value → H) :
    ReturnsInHanded {} Tryd.checked os 3 .any (fun w args => (Rows.fnPRReadsSpec.pre enc Tryd.prog Tryd.f3 [] false w args ∧ laidMetH Tryd.prog Rows.fnPRReadsRow.laid w) ∧ sizedMet enc Tryd.prog Tryd.f3 (OpenSpec.ofChange Rows.fnPRReadsSpec) false w args) (Rows.fnPRReadsSpec.post enc Tryd.prog Tryd.f3 false true false false) := by
  refine returnsInHanded_of_change_and (C := Tryd.checked) (X := fun w _ => laidMetH Tryd.prog Rows.fnPRReadsRow.laid w) (fun _ _ _ hh h => h.of_heap hh) own started (by kernel_rfl) Tryd.func3
    (ChangeSpec.witness_shaped (enc := enc) (C := Tryd.checked) (os := os) (X := fun w _ => laidMetH Tryd.prog Rows.fnPRReadsRow.laid w) false (World.doorLaid Tryd.prog 33 os) #[.slice none 0 0, .slice none 0 0] 8 rfl (World.shaped_of_RefB (by kernel_rfl) (by kernel_rfl)) (by kernel_rfl) (by kernel_rfl) (by kernel_rfl) (door_met os _)) ?_
  intro W base args ds gs before hval0 hW _ _ hL _
  have hval : ∀ (j : Nat) t v, Tryd.f3.params[j]? = some t → args[j]? = some v → Value.okWide Tryd.prog W .any base t v := hval0
  have hW' := hW
  obtain ⟨p, q, hA0, hV, rfl, hfz, hnd⟩ := hW
  have hA : DataW.TrodAll enc Tryd.prog W 0 (fun _ => true) true Tryd.f3.params.toList args.toList ds p := hA0
  rw [Tryd.params3] at hA hval
  obtain ⟨v0, vs0, d0, ds0, p0, q0, hargs, rfl, rfl, h0, r0⟩ := trodAll_cons hA
  obtain ⟨v1, vs1, d1, ds1, p1, q1, rfl, rfl, rfl, h1, r1⟩ := trodAll_cons r0
  obtain ⟨rfl, rfl, rfl⟩ := trodAll_nil r1
  obtain rfl : args = #[v0, v1] := by cases args; simp_all
  have hlt := DataW.TrodVars.lt hV
  obtain ⟨g, t, cs, fuel, d, p', rfl, hg, ht, hvar, hd, rfl⟩ := trodVars_one hV
  have hgl : g < W.heap.size := by
    unfold World.var? at hvar
    rw [hg] at hvar
    rcases Nat.lt_or_ge g W.heap.size with h | h
    · exact h
    · simp [Array.getElem?_eq_none h] at hvar
  have k0 := h0
  have lt0 : ∀ x ∈ p0, x.block < W.heap.size := by obtain ⟨m, hm⟩ := k0; exact DataW.trod_lt m _ _ _ hm
  have k1 := h1
  have lt1 : ∀ x ∈ p1, x.block < W.heap.size := by obtain ⟨m, hm⟩ := k1; exact DataW.trod_lt m _ _ _ hm
  obtain ⟨a0, len0, cap0, rfl⟩ := okWide_slice Tryd.underlying22 (hval 0 22 v0 rfl rfl)
  obtain ⟨z0, w0⟩ : ∃ zs, IsRow .u8 W a0 len0 cap0 zs := by
    obtain ⟨fuel, hf⟩ := h0
    rcases open_ints Tryd.underlying22 Tryd.underlying5 (by kernel_rfl) hf with ⟨hcs, _⟩ | ⟨x, l, c, zs, hcs, _, hl, hm, hz, _, hcell, hwz⟩
    · simp [Value.cells] at hcs
      obtain ⟨rfl, rfl, rfl⟩ := hcs
      exact ⟨[], .inl ⟨rfl, rfl, rfl, rfl⟩⟩
    · simp [Value.cells] at hcs
      obtain ⟨rfl, rfl, rfl⟩ := hcs
      exact ⟨zs, .inr ⟨_, rfl, hl, hm, by simpa using hz, hcell, hwz⟩⟩
  obtain ⟨a1, len1, cap1, rfl⟩ := okWide_slice Tryd.underlying23 (hval 1 23 v1 rfl rfl)
  obtain ⟨z1, w1⟩ : ∃ z, IsAsks W a1 len1 cap1 z := by
    obtain ⟨fuel, hf⟩ := h1
    obtain ⟨A, n, c, L, hcs, h1, h2, h3, h4⟩ := prims_of_trod hf
    simp [Value.cells] at hcs
    obtain ⟨rfl, rfl, rfl⟩ := hcs
    exact ⟨L, h1, h2, h3, h4⟩
  have hval0' := hval
  clear hA0 hval0
  have wb0 : ∀ i, ob a0 = some i → i < W.heap.size := fun i hi => by
    cases a0 with
    | none => cases hi
    | some x =>
      injection hi with hi
      rw [← hi]
      exact okWide_blk Tryd.underlying22 (hval0' 0 22 _ rfl rfl)
  refine (walk a0 len0 cap0 z0 a1 len1 cap1 z1 W w0 w1 wb0 hL).mono fun e W' ⟨he, bel⟩ => ?_
  subst he
  have hg1 : Tryd.prog.globalNamed "given.example/pub-clapboard/spec.prWidths" = some g := hg
  have hvar1 : World.var? Tryd.prog W "given.example/pub-clapboard/spec.prWidths" = some cs := hvar
  have hv' : World.var? Tryd.prog W' "given.example/pub-clapboard/spec.prWidths" = some cs := by
    unfold World.var? at hvar1 ⊢
    rw [hg1] at hvar1 ⊢
    simp only [Option.bind_some] at hvar1 ⊢
    rw [bel.block g hgl]
    exact hvar1
  have ht' := ht
  obtain rfl := Option.some.inj ((show Tryd.prog.globalNamed "given.example/pub-clapboard/spec.prWidths" = some 1 by kernel_rfl).symm.trans hg)
  obtain rfl := Option.some.inj ((show (Tryd.prog.globals[1]?).map (·.type) = some 96 by kernel_rfl).symm.trans ht)
  have hst : ∀ sp : Nat → Bool, (∀ x ∈ p', sp x.block = true) → DataW.trod enc Tryd.prog W' 0 sp true fuel 96 cs.toList = some (d, p') := fun sp hsp =>
    DataW.trod_stays (kids_book laidOut (by kernel_rfl)) (book_sized (by kernel_rfl)) (fun h => by cases h) ⟨of_decide_eq_true (by kernel_rfl), book_self 96⟩ hd (fun x hx => bel.same (hlt x (List.mem_append_right _ hx))) hsp
  exact ⟨_, rfl, _, _, _, [], _, _, hW', trodAll_mk1 (shut_bool Tryd.underlying4 _), (trodAll_cons_mk (Below.trod laidOut (by kernel_rfl) (of_decide_eq_true (by kernel_rfl)) k0 bel lt0) (trodAll_cons_mk (Below.trod laidOut (by kernel_rfl) (of_decide_eq_true (by kernel_rfl)) k1 bel lt1) trodAll_mk0)), trodVars_mk1 hg ht' hv' (hst _ (fun x hx => by simpa using hlt x (List.mem_append_right _ hx))), bel.frame _, fun h => by cases h⟩

theorem over : Rows.fnPRReadsRow.holds Tryd.pinned (OpenSpec.ofChange Rows.fnPRReadsSpec) :=
  OpenClaim.holds_of_wide 3 Tryd.f3 rfl rfl rfl rfl rfl rfl rfl ⟨rfl, rfl, rfl, rfl, rfl⟩ rfl rfl rfl rfl rfl (by kernel_rfl) Tryd.func3 (by kernel_rfl)
    (of_decide_eq_true (by kernel_rfl)) (by unfold Func.isWrapper; first | (rw [if_pos (by decide +kernel)]; kernel_rfl) | (rw [if_neg (by decide +kernel)]; exact ⟨rfl, rfl⟩))
    (fun os started H enc _ => lifted os started H enc)

theorem proved : Rows.FnPRReadsCardSaid :=
  Claim7.holds_tied_plain_at .later [] [.data] true (true, "21d87c1ec4a0755f6faebb7aa80d827e0e319964d640ee02a56aa9106aaaafa5") true
    over (fun _ h => by cases h) (by kernel_rfl) (fun _ h => by cases h) fnPRReads_row_tie rfl ⟨rfl, rfl⟩ (by kernel_rfl) rfl
    (fun f fn hf hfn => by
      obtain rfl : f = 3 := Option.some.inj ((show Tryd.prog.funcNamed "given.example/pub-clapboard/laws.FnPRReads" = some 3 by kernel_rfl).symm.trans hf) |>.symm
      obtain rfl : fn = Tryd.f3 := (Option.some.inj (Tryd.func3.symm.trans hfn)).symm
      exact ⟨by kernel_rfl, fun j t ht => by
        rw [Tryd.params3] at ht
        have hm : t ∈ [22, 23] := by simpa using Array.mem_of_getElem? ht
        have hall : ([22, 23].all fun u => !Tryd.prog.wantsStandIn u) = true := by kernel_rfl
        exact (show Tryd.prog.wantsStandIn t = false by simpa using List.all_eq_true.1 hall t hm)⟩)
    (by kernel_rfl)
#print axioms proved
end Go.Proofs.YthfoleapdmpdfaaDoor.fnPRReads
