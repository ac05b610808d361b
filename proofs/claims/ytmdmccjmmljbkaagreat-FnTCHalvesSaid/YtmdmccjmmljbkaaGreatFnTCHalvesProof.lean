/- The law FnTCHalves of package laws holds for every input: a column of 128 bits has the bytes of one of 64 bits with its words one behind the other, and one of 256 bits those of four. Conditions: none. -/
import Derived.Test.YtmdmccjmmljbkaaGreatRows
import Derived.WalkKit
import Derived.ProofKit
import Derived.OpenShut
import Derived.ShutString
import Derived.ChangeOld
import Derived.ChangeSame
import Derived.Below
import Derived.Test.YtmdmccjmmljbkaaGreatLTh
import Derived.Test.YtmdmccjmmljbkaaGreatR4
namespace Go.Proofs.YtmdmccjmmljbkaaGreat.fnTCHalves
open Go.ChangeShapes Go.WideShapes Go.ChangeAt Go.RowKit
open Go.ChangeMaps (open_string shut_string)
set_option linter.unusedVariables false

theorem own : ownKnob Tryz.prog.godebug = none := by kernel_rfl
theorem laidOut : laidOutB Tryz.prog = true := by kernel_rfl
def IsRow (k : IntKind) (w : World) (a : Option Addr) (len cap : Nat) (zs : List Int) : Prop :=
  (a = none ∧ len = 0 ∧ cap = 0 ∧ zs = []) ∨
  ∃ x, a = some x ∧ len ≤ cap ∧ cap ≤ maxLen ∧ zs.length = cap ∧ (∀ i, i < zs.length → w.cell? (x.add i) = some (.int k (zs.getD i 0))) ∧ ∀ n ∈ zs, (Lit.int k n).wf = true
def IsRows (k : IntKind) (w : World) (a : Option Addr) (len cap : Nat) : Prop :=
  (a = none ∧ len = 0 ∧ cap = 0) ∨
  ∃ x, a = some x ∧ len ≤ cap ∧ cap ≤ maxLen ∧ ∀ r, r < len → ∃ (A : Option Addr) (L C : Nat) (Z : List Int), w.cell? (x.add r) = some (.slice A L C) ∧ IsRow k w A L C Z
def IsW4s (w : World) (a : Option Addr) (len cap : Nat) (L : List W4) : Prop := len ≤ cap ∧ cap ≤ maxLen ∧ RowsW w a len L ∧ ∀ q ∈ L, W4Ok q

theorem walk (a0 : Option Addr) (len0 cap0 : Nat) (z0 : List W4) (w : World) (w0 : IsW4s w a0 len0 cap0 z0) :
    Calls Tryz.prog 3 #[.slice a0 len0 cap0] w fun e w' => e = .returned (.bool true) ∧ Below w.heap.size w w' := by
  exact thWalk w a0 len0 cap0 z0 w0.2.2.1 (by have h1 := w0.1; have h2 := w0.2.1; simp only [maxLen] at h2; omega) w0.1 w0.2.2.2

set_option maxRecDepth 100000 in
theorem lifted (os : Os) (started : os.Started) (H : Type) (enc : TypeId × Value → H) :
    ReturnsInHanded {} Tryz.checked os 3 .any (Rows.fnTCHalvesSpec.pre6 enc Tryz.prog Tryz.f3 Rows.fnTCHalvesRow.domain false) (Rows.fnTCHalvesSpec.post enc Tryz.prog Tryz.f3 false true false false) := by
  refine returnsInHanded_of_change (C := Tryz.checked) own started (by kernel_rfl) Tryz.func3
    (ChangeSpec.witness6 (enc := enc) (C := Tryz.checked) false ⟨#[], #[.slice none 0 0], []⟩ 8 (by kernel_rfl) (by kernel_rfl) (by kernel_rfl) (by kernel_rfl)) ?_
  intro W base args ds gs before hval0 hW hcnd _
  have hval : ∀ (j : Nat) t v, Tryz.f3.params[j]? = some t → args[j]? = some v → Value.okWide Tryz.prog W .any base t v := hval0
  have hW' := hW
  obtain ⟨p, q, hA0, hV, rfl, hfz, hnd⟩ := hW
  have hA : DataW.TrodAll enc Tryz.prog W 0 (fun _ => true) true Tryz.f3.params.toList args.toList ds p := hA0
  rw [Tryz.params3] at hA hval
  obtain ⟨v0, vs0, d0, ds0, p0, q0, hargs, rfl, rfl, h0, r0⟩ := trodAll_cons hA
  obtain ⟨rfl, rfl, rfl⟩ := trodAll_nil r0
  obtain rfl : args = #[v0] := by cases args; simp_all
  obtain ⟨rfl, rfl⟩ := trodVars_none hV
  have k0 := h0
  have lt0 : ∀ x ∈ p0, x.block < W.heap.size := by obtain ⟨m, hm⟩ := k0; exact DataW.trod_lt m _ _ _ hm
  obtain ⟨a0, len0, cap0, rfl⟩ := okWide_slice Tryz.underlying22 (hval 0 22 v0 rfl rfl)
  obtain ⟨z0, w0⟩ : ∃ z, IsW4s W a0 len0 cap0 z := by
    obtain ⟨fuel, hf⟩ := h0
    obtain ⟨A, n, c, L, hcs, h1, h2, h3, h4⟩ := w4s_of_trod Tryz.underlying22 Tryz.underlying24 Tryz.underlying23 (by kernel_rfl) (by kernel_rfl) hf
    simp [Value.cells] at hcs
    obtain ⟨rfl, rfl, rfl⟩ := hcs
    exact ⟨L, h1, h2, h3, h4⟩
  clear hA0 hval0
  refine (walk a0 len0 cap0 z0 W w0).mono fun e W' ⟨he, bel⟩ => ?_
  subst he
  exact ⟨_, rfl, _, _, _, [], _, [], hW', trodAll_mk1 (shut_bool Tryz.underlying4 _), (trodAll_cons_mk (Below.trod laidOut (by kernel_rfl) (of_decide_eq_true (by kernel_rfl)) k0 bel lt0) trodAll_mk0), rfl, bel.frame _, fun h => by cases h⟩

theorem over : Rows.fnTCHalvesRow.holds Tryz.pinned (OpenSpec.ofChange Rows.fnTCHalvesSpec) :=
  OpenClaim.holds_of_wide 3 Tryz.f3 rfl rfl rfl rfl rfl rfl rfl ⟨rfl, rfl, rfl, rfl, rfl⟩ rfl rfl rfl rfl rfl (by kernel_rfl) Tryz.func3 (by kernel_rfl)
    (of_decide_eq_true (by kernel_rfl)) (by unfold Func.isWrapper; first | (rw [if_pos (by decide +kernel)]; kernel_rfl) | (rw [if_neg (by decide +kernel)]; exact ⟨rfl, rfl⟩))
    (fun os started H enc _ => lifted os started H enc)

theorem proved : Rows.FnTCHalvesSaid := over
#print axioms proved
end Go.Proofs.YtmdmccjmmljbkaaGreat.fnTCHalves
