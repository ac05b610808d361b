/- The law FnARTuple of package laws holds for every input: a tuple is its columns, one behind the other, and it is read as it was -/
import Derived.Test.YtpcjifhklofofaaRows
import Derived.WalkKit
import Derived.ProofKit
import Derived.OpenShut
import Derived.ShutString
import Derived.ChangeOld
import Derived.ChangeSame
import Derived.Below
import Derived.Test.YtpcjifhklofofaaLTu
import Derived.Test.YtpcjifhklofofaaRow
namespace Go.Proofs.Ytpcjifhklofofaa.fnARTuple
open Go.ChangeShapes Go.WideShapes Go.ChangeAt Go.RowKit
open Go.ChangeMaps (open_string shut_string)
set_option linter.unusedVariables false

theorem own : ownKnob Try.prog.godebug = none := by kernel_rfl
theorem laidOut : laidOutB Try.prog = true := by kernel_rfl
def IsRow (k : IntKind) (w : World) (a : Option Addr) (len cap : Nat) (zs : List Int) : Prop :=
  (a = none ∧ len = 0 ∧ cap = 0 ∧ zs = []) ∨
  ∃ x, a = some x ∧ len ≤ cap ∧ cap ≤ maxLen ∧ zs.length = cap ∧ (∀ i, i < zs.length → w.cell? (x.add i) = some (.int k (zs.getD i 0))) ∧ ∀ n ∈ zs, (Lit.int k n).wf = true
def IsRows (k : IntKind) (w : World) (a : Option Addr) (len cap : Nat) : Prop :=
  (a = none ∧ len = 0 ∧ cap = 0) ∨
  ∃ x, a = some x ∧ len ≤ cap ∧ cap ≤ maxLen ∧ ∀ r, r < len → ∃ (A : Option Addr) (L C : Nat) (Z : List Int), w.cell? (x.add r) = some (.slice A L C) ∧ IsRow k w A L C Z
def IsStr (w : World) (a : Option Addr) (len cap : Nat) (xs : List ByteArray) : Prop := xs.length = len ∧ Rd w 1 a len (xs.map Value.string) ∧ len ≤ cap ∧ cap ≤ maxLen
def IsStrs (w : World) (a : Option Addr) (len cap : Nat) (LL : List (List ByteArray)) : Prop := LL.length = len ∧ RowsOf w a LL ∧ (∀ X ∈ LL, X.length ≤ maxLen) ∧ len ≤ cap ∧ cap ≤ maxLen

theorem walk (a0 : Option Addr) (len0 cap0 : Nat) (z0 : List ByteArray) (a1 : Option Addr) (len1 cap1 : Nat) (z1 : List Int) (a2 : Option Addr) (len2 cap2 : Nat) (z2 : List (List ByteArray)) (a3 : Option Addr) (len3 cap3 : Nat) (z3 : List Int) (w : World) (w0 : IsStr w a0 len0 cap0 z0) (w1 : IsRow .u32 w a1 len1 cap1 z1) (w2 : IsStrs w a2 len2 cap2 z2) (w3 : IsRow .u8 w a3 len3 cap3 z3) :
    Calls Try.prog 3 #[.slice a0 len0 cap0, .slice a1 len1 cap1, .slice a2 len2 cap2, .slice a3 len3 cap3] w fun e w' => e = .returned (.bool true) ∧ Below w.heap.size w w' := by
  obtain ⟨p1, p2, p3, p4⟩ := w0
  obtain ⟨l1, q1, q2, q3, q4, q5⟩ := row_nums w a1 len1 cap1 z1 w1
  have q6 : cap1 ≤ maxLen := by
    rcases w1 with ⟨_, _, h, _⟩ | ⟨_, _, _, h, _⟩ <;> omega
  obtain ⟨r1, r2, r3, r4, r5⟩ := w2
  obtain ⟨l, g1, g2, g3⟩ := row_bytes w a3 len3 cap3 z3 w3
  have g4 : len3 ≤ maxLen := by
    rcases w3 with ⟨_, h, _⟩ | ⟨_, _, h, h', _⟩ <;> omega
  simp only [maxLen] at p4 q6 r5 g4
  exact arTupleWalk w a0 len0 cap0 z0 a1 len1 cap1 l1 a2 len2 cap2 z2 a3 len3 cap3 l p1 p2 (by omega) q1 q2 q3 (by omega) q5 r1 r2 (by omega) (fun X hX => by have := r3 X hX; simp only [maxLen] at this; omega) g1 g2 g3 (by omega)

set_option maxRecDepth 100000 in
theorem lifted (os : Os) (started : os.Started) (H : Type) (enc : TypeId × Value → H) :
    ReturnsInHanded {} Try.checked os 3 .any (Rows.fnARTupleSpec.pre6 enc Try.prog Try.f3 Rows.fnARTupleRow.domain false) (Rows.fnARTupleSpec.post enc Try.prog Try.f3 false true false false) := by
  refine returnsInHanded_of_change (C := Try.checked) own started (by kernel_rfl) Try.func3
    (ChangeSpec.witness6 (enc := enc) (C := Try.checked) false ⟨#[], #[.slice none 0 0, .slice none 0 0, .slice none 0 0, .slice none 0 0], []⟩ 8 (by kernel_rfl) (by kernel_rfl) (by kernel_rfl) (by kernel_rfl)) ?_
  intro W base args ds gs before hval0 hW hcnd _
  have hval : ∀ (j : Nat) t v, Try.f3.params[j]? = some t → args[j]? = some v → Value.okWide Try.prog W .any base t v := hval0
  have hW' := hW
  obtain ⟨p, q, hA0, hV, rfl, hfz, hnd⟩ := hW
  have hA : DataW.TrodAll enc Try.prog W 0 (fun _ => true) true Try.f3.params.toList args.toList ds p := hA0
  rw [Try.params3] at hA hval
  obtain ⟨v0, vs0, d0, ds0, p0, q0, hargs, rfl, rfl, h0, r0⟩ := trodAll_cons hA
  obtain ⟨v1, vs1, d1, ds1, p1, q1, rfl, rfl, rfl, h1, r1⟩ := trodAll_cons r0
  obtain ⟨v2, vs2, d2, ds2, p2, q2, rfl, rfl, rfl, h2, r2⟩ := trodAll_cons r1
  obtain ⟨v3, vs3, d3, ds3, p3, q3, rfl, rfl, rfl, h3, r3⟩ := trodAll_cons r2
  obtain ⟨rfl, rfl, rfl⟩ := trodAll_nil r3
  obtain rfl : args = #[v0, v1, v2, v3] := by cases args; simp_all
  obtain ⟨rfl, rfl⟩ := trodVars_none hV
  have k0 := h0
  have lt0 : ∀ x ∈ p0, x.block < W.heap.size := by obtain ⟨m, hm⟩ := k0; exact DataW.trod_lt m _ _ _ hm
  have k1 := h1
  have lt1 : ∀ x ∈ p1, x.block < W.heap.size := by obtain ⟨m, hm⟩ := k1; exact DataW.trod_lt m _ _ _ hm
  have k2 := h2
  have lt2 : ∀ x ∈ p2, x.block < W.heap.size := by obtain ⟨m, hm⟩ := k2; exact DataW.trod_lt m _ _ _ hm
  have k3 := h3
  have lt3 : ∀ x ∈ p3, x.block < W.heap.size := by obtain ⟨m, hm⟩ := k3; exact DataW.trod_lt m _ _ _ hm
  obtain ⟨a0, len0, cap0, rfl⟩ := okWide_slice Try.underlying22 (hval 0 22 v0 rfl rfl)
  obtain ⟨z0, w0⟩ : ∃ z, IsStr W a0 len0 cap0 z := by
    obtain ⟨fuel, hf⟩ := h0
    obtain ⟨A, n, c, xs, hcs, h1, h2, h3, h4⟩ := strs_of_trod Try.underlying22 Try.underlying9 (by kernel_rfl) hf
    simp [Value.cells] at hcs
    obtain ⟨rfl, rfl, rfl⟩ := hcs
    exact ⟨xs, h3, h4, h1, h2⟩
  obtain ⟨a1, len1, cap1, rfl⟩ := okWide_slice Try.underlying23 (hval 1 23 v1 rfl rfl)
  obtain ⟨z1, w1⟩ : ∃ zs, IsRow .u32 W a1 len1 cap1 zs := by
    obtain ⟨fuel, hf⟩ := h1
    rcases open_ints Try.underlying23 Try.underlying30 (by kernel_rfl) hf with ⟨hcs, _⟩ | ⟨x, l, c, zs, hcs, _, hl, hm, hz, _, hcell, hwz⟩
    · simp [Value.cells] at hcs
      obtain ⟨rfl, rfl, rfl⟩ := hcs
      exact ⟨[], .inl ⟨rfl, rfl, rfl, rfl⟩⟩
    · simp [Value.cells] at hcs
      obtain ⟨rfl, rfl, rfl⟩ := hcs
      exact ⟨zs, .inr ⟨_, rfl, hl, hm, by simpa using hz, hcell, hwz⟩⟩
  obtain ⟨a2, len2, cap2, rfl⟩ := okWide_slice Try.underlying24 (hval 2 24 v2 rfl rfl)
  obtain ⟨z2, w2⟩ : ∃ z, IsStrs W a2 len2 cap2 z := by
    obtain ⟨fuel, hf⟩ := h2
    obtain ⟨A, n, c, LL, hcs, h1, h2, h3, h4, h5⟩ := rows_of_trod Try.underlying24 Try.underlying22 Try.underlying9 (by kernel_rfl) (by kernel_rfl) hf
    simp [Value.cells] at hcs
    obtain ⟨rfl, rfl, rfl⟩ := hcs
    exact ⟨LL, h3, h4, h5, h1, h2⟩
  obtain ⟨a3, len3, cap3, rfl⟩ := okWide_slice Try.underlying25 (hval 3 25 v3 rfl rfl)
  obtain ⟨z3, w3⟩ : ∃ zs, IsRow .u8 W a3 len3 cap3 zs := by
    obtain ⟨fuel, hf⟩ := h3
    rcases open_ints Try.underlying25 Try.underlying5 (by kernel_rfl) hf with ⟨hcs, _⟩ | ⟨x, l, c, zs, hcs, _, hl, hm, hz, _, hcell, hwz⟩
    · simp [Value.cells] at hcs
      obtain ⟨rfl, rfl, rfl⟩ := hcs
      exact ⟨[], .inl ⟨rfl, rfl, rfl, rfl⟩⟩
    · simp [Value.cells] at hcs
      obtain ⟨rfl, rfl, rfl⟩ := hcs
      exact ⟨zs, .inr ⟨_, rfl, hl, hm, by simpa using hz, hcell, hwz⟩⟩
  clear hA0 hval0
  refine (walk a0 len0 cap0 z0 a1 len1 cap1 z1 a2 len2 cap2 z2 a3 len3 cap3 z3 W w0 w1 w2 w3).mono fun e W' ⟨he, bel⟩ => ?_
  subst he
  exact ⟨_, rfl, _, _, _, [], _, [], hW', trodAll_mk1 (shut_bool Try.underlying4 _), (trodAll_cons_mk (Below.trod laidOut (by kernel_rfl) (of_decide_eq_true (by kernel_rfl)) k0 bel lt0) (trodAll_cons_mk (Below.trod laidOut (by kernel_rfl) (of_decide_eq_true (by kernel_rfl)) k1 bel lt1) (trodAll_cons_mk (Below.trod laidOut (by kernel_rfl) (of_decide_eq_true (by kernel_rfl)) k2 bel lt2) (trodAll_cons_mk (Below.trod laidOut (by kernel_rfl) (of_decide_eq_true (by kernel_rfl)) k3 bel lt3) trodAll_mk0)))), rfl, bel.frame _, fun h => by cases h⟩

theorem over : Rows.fnARTupleRow.holds Try.pinned (OpenSpec.ofChange Rows.fnARTupleSpec) :=
  OpenClaim.holds_of_wide 3 Try.f3 rfl rfl rfl rfl rfl rfl rfl ⟨rfl, rfl, rfl, rfl, rfl⟩ rfl rfl rfl rfl rfl (by kernel_rfl) Try.func3 (by kernel_rfl)
    (of_decide_eq_true (by kernel_rfl)) (by unfold Func.isWrapper; first | (rw [if_pos (by decide +kernel)]; kernel_rfl) | (rw [if_neg (by decide +kernel)]; exact ⟨rfl, rfl⟩))
    (fun os started H enc _ => lifted os started H enc)

theorem proved : Rows.FnARTupleSaid := over
#print axioms proved
end Go.Proofs.Ytpcjifhklofofaa.fnARTuple
