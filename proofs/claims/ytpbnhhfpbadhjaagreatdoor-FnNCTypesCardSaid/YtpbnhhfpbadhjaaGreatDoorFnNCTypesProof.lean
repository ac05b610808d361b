/- The law FnNCTypes of package laws holds: the kinds of numbers have the names of their types. Conditions: none beyond the card's. -/
import Derived.Test.YtpbnhhfpbadhjaaGreatDoorRows
import Derived.WalkKit
import Derived.ProofKit
import Derived.OpenShut
import Derived.ShutString
import Derived.ChangeOld
import Derived.ChangeSame
import Derived.ChangeVars
import Derived.Below
import Derived.LaidMore
import Derived.Stop.Joined
import Derived.SevenTiedAt
import Derived.WideKeyArgs
import Derived.Test.YtpbnhhfpbadhjaaGreatDoorTie
import Derived.Test.YtpbnhhfpbadhjaaGreatDoorCards
import Derived.Test.YtpbnhhfpbadhjaaGreatDoorLNt
namespace Go.Proofs.YtpbnhhfpbadhjaaGreatDoor.fnNCTypes
open Go.ChangeShapes Go.WideShapes Go.ChangeAt Go.RowKit
open Go.ChangeMaps (open_string shut_string)
set_option linter.unusedVariables false

theorem own : ownKnob Tryz.prog.godebug = none := by kernel_rfl
theorem laidOut : laidOutB Tryz.prog = true := by kernel_rfl

theorem walk (w : World) (hL : laidMetH Tryz.prog Rows.fnNCTypesRow.laid w) :
    Calls Tryz.prog 3 #[] w fun e w' => e = .returned (.bool true) ∧ Below w.heap.size w w' :=
  ncLaw w (names_laid (show laidMet Tryz.prog [("given.example/pub-clapboard/spec.ncNames", strData ncN)] w from hL))

theorem door_met (os : Os) (args : Array Value) : laidMetH Tryz.prog Rows.fnNCTypesRow.laid ((World.doorLaid Tryz.prog 14 os).forCall (fun _ _ => 0) ⟨#[], args, []⟩).memory :=
  laidMetH_of_parts3 (fuel := 8) (laidMet_of_run' 8 (by kernel_rfl) (by kernel_rfl)) (by kernel_rfl) (by kernel_rfl)
set_option maxRecDepth 100000 in
theorem lifted (os : Os) (started : os.Started) (H : Type) (enc : TypeId × Value → H) :
    ReturnsInHanded {} Tryz.checked os 3 .any (fun w args => (Rows.fnNCTypesSpec.pre enc Tryz.prog Tryz.f3 [] false w args ∧ laidMetH Tryz.prog Rows.fnNCTypesRow.laid w) ∧ sizedMet enc Tryz.prog Tryz.f3 (OpenSpec.ofChange Rows.fnNCTypesSpec) false w args) (Rows.fnNCTypesSpec.post enc Tryz.prog Tryz.f3 false true false false) := by
  refine returnsInHanded_of_change_and (C := Tryz.checked) (X := fun w _ => laidMetH Tryz.prog Rows.fnNCTypesRow.laid w) (fun _ _ _ hh h => h.of_heap hh) own started (by kernel_rfl) Tryz.func3
    (ChangeSpec.witness_shaped (enc := enc) (C := Tryz.checked) (os := os) (X := fun w _ => laidMetH Tryz.prog Rows.fnNCTypesRow.laid w) false (World.doorLaid Tryz.prog 14 os) #[] 8 rfl (World.shaped_of_RefB (by kernel_rfl) (by kernel_rfl)) (by kernel_rfl) (by kernel_rfl) (by kernel_rfl) (door_met os _)) ?_
  intro W base args ds gs before hval0 hW _ _ hL _
  have hW' := hW
  obtain ⟨p, q, hA0, hV, rfl, hfz, hnd⟩ := hW
  have hA : DataW.TrodAll enc Tryz.prog W 0 (fun _ => true) true Tryz.f3.params.toList args.toList ds p := hA0
  rw [Tryz.params3] at hA
  obtain ⟨ha0, hd0, hp0⟩ := trodAll_nil hA
  obtain rfl : args = #[] := by cases args; simp_all
  subst hd0 hp0
  have hlt := DataW.TrodVars.lt hV
  obtain ⟨g, t, cs, fuel, d, p', rfl, hg, ht, hvar, hd, rfl⟩ := trodVars_one hV
  have hgl : g < W.heap.size := by
    unfold World.var? at hvar
    rw [hg] at hvar
    rcases Nat.lt_or_ge g W.heap.size with h | h
    · exact h
    · simp [Array.getElem?_eq_none h] at hvar
  refine (walk W hL).mono fun e W' ⟨he, bel⟩ => ?_
  subst he
  have hg1 : Tryz.prog.globalNamed "given.example/pub-clapboard/spec.ncNames" = some g := hg
  have hvar1 : World.var? Tryz.prog W "given.example/pub-clapboard/spec.ncNames" = some cs := hvar
  have hv' : World.var? Tryz.prog W' "given.example/pub-clapboard/spec.ncNames" = some cs := by
    unfold World.var? at hvar1 ⊢
    rw [hg1] at hvar1 ⊢
    simp only [Option.bind_some] at hvar1 ⊢
    rw [bel.block g hgl]
    exact hvar1
  have ht' := ht
  obtain rfl := Option.some.inj ((show Tryz.prog.globalNamed "given.example/pub-clapboard/spec.ncNames" = some 0 by kernel_rfl).symm.trans hg)
  obtain rfl := Option.some.inj ((show (Tryz.prog.globals[0]?).map (·.type) = some 29 by kernel_rfl).symm.trans ht)
  have hst : ∀ sp : Nat → Bool, (∀ x ∈ p', sp x.block = true) → DataW.trod enc Tryz.prog W' 0 sp true fuel 29 cs.toList = some (d, p') := fun sp hsp =>
    DataW.trod_stays (kids_book laidOut (by kernel_rfl)) (book_sized (by kernel_rfl)) (fun h => by cases h) ⟨of_decide_eq_true (by kernel_rfl), book_self 29⟩ hd (fun x hx => bel.same (hlt x (List.mem_append_right _ hx))) hsp
  exact ⟨_, rfl, _, _, _, [], _, _, hW', trodAll_mk1 (shut_bool Tryz.underlying4 _), trodAll_mk0, trodVars_mk1 hg ht' hv' (hst _ (fun x hx => by simpa using hlt x (List.mem_append_right _ hx))), bel.frame _, fun h => by cases h⟩

theorem over : Rows.fnNCTypesRow.holds Tryz.pinned (OpenSpec.ofChange Rows.fnNCTypesSpec) :=
  OpenClaim.holds_of_wide 3 Tryz.f3 rfl rfl rfl rfl rfl rfl rfl ⟨rfl, rfl, rfl, rfl, rfl⟩ rfl rfl rfl rfl rfl (by kernel_rfl) Tryz.func3 (by kernel_rfl)
    (of_decide_eq_true (by kernel_rfl)) (by unfold Func.isWrapper; first | (rw [if_pos (by decide +kernel)]; kernel_rfl) | (rw [if_neg (by decide +kernel)]; exact ⟨rfl, rfl⟩))
    (fun os started H enc _ => lifted os started H enc)
theorem proved : Rows.FnNCTypesCardSaid :=
  Claim7.holds_tied_plain_at .later [] [.data] true (true, "9c4ccf53ae33b631ac6cf233c533328454d0ea5734a96400ad3c5a5b1ecca0e7") false
    over (fun _ h => by cases h) (by kernel_rfl) (fun _ h => by cases h) fnNCTypes_row_tie rfl ⟨rfl, rfl⟩ (by kernel_rfl) rfl
    (fun f fn hf hfn => by
      obtain rfl : f = 3 := Option.some.inj ((show Tryz.prog.funcNamed "given.example/pub-clapboard/laws.FnNCTypes" = some 3 by kernel_rfl).symm.trans hf) |>.symm
      obtain rfl : fn = Tryz.f3 := (Option.some.inj (Tryz.func3.symm.trans hfn)).symm
      exact ⟨by kernel_rfl, fun j t ht => by
        rw [Tryz.params3] at ht
        simp at ht⟩)
    (by kernel_rfl)
#print axioms proved
end Go.Proofs.YtpbnhhfpbadhjaaGreatDoor.fnNCTypes
