/- The law FnPKProgress of package laws holds for every input: a progress has the bytes of a version of the protocol, and what this version knows of it is read again; no part of its bytes is read as one. (The frame behind the walk was written by the seat's proof-skeleton program for another law and turned to an array parameter by hand.) -/
import Derived.Test.YtlemmkcofmofiaaRows
import Derived.WalkKit
import Derived.ProofKit
import Derived.OpenShut
import Derived.Test.YtlemmkcofmofiaaLPg
import Derived.Test.YtlemmkcofmofiaaRow
import Derived.ShutString
import Derived.ChangeOld
import Derived.Below
namespace Go.Proofs.Ytlemmkcofmofiaa.fnPKProgress
open Go.ChangeShapes Go.WideShapes Go.ChangeAt Go.RowKit
open Go.ChangeMaps (open_string shut_string)
set_option linter.unusedVariables false

theorem own : ownKnob Try.prog.godebug = none := by kernel_rfl
theorem laidOut : laidOutB Try.prog = true := by kernel_rfl

/-- WHAT THE WALK IS TOLD OF A SLICE OF INTEGERS THAT CAME IN: it is nil; or it leads to a row of 'cap' cells, the numbers 'zs' (the first 'len' are its elements, the rest its spare room), each fitting its kind. -/
def IsRow (k : IntKind) (w : World) (a : Option Addr) (len cap : Nat) (zs : List Int) : Prop :=
  (a = none ∧ len = 0 ∧ cap = 0 ∧ zs = []) ∨
  ∃ x, a = some x ∧ len ≤ cap ∧ cap ≤ maxLen ∧ zs.length = cap ∧ (∀ i, i < zs.length → w.cell? (x.add i) = some (.int k (zs.getD i 0))) ∧ ∀ n ∈ zs, (Lit.int k n).wf = true

theorem cells24 : Try.prog.cellsOf 24 = 6 := by kernel_rfl
theorem cells22 : Try.prog.cellsOf 22 = 1 := by kernel_rfl
theorem list6 {α : Type} (l : List α) (h : (⟨l⟩ : Array α).size = 6) : ∃ a b c d e f, l = [a, b, c, d, e, f] := by
  match l, h with
  | [a, b, c, d, e, f], _ => exact ⟨a, b, c, d, e, f, rfl⟩
theorem opened {H : Type} {enc : TypeId × Value → H} {w : World} {base fuel : Nat} {spare : Nat → Bool} {held : Bool} {c0 c1 c2 c3 c4 c5 : Value} {x : DataW H × List MemPlace} (h : DataW.trod enc Try.prog w base spare held fuel 24 [c0, c1, c2, c3, c4, c5] = some x) :
    ∃ b0 b1 b2 b3 b4 b5 : Int, c0 = .int .u64 b0 ∧ c1 = .int .u64 b1 ∧ c2 = .int .u64 b2 ∧ c3 = .int .u64 b3 ∧ c4 = .int .u64 b4 ∧ c5 = .int .u64 b5 ∧ (Lit.int .u64 b0).wf = true ∧ (Lit.int .u64 b1).wf = true ∧ (Lit.int .u64 b2).wf = true ∧ (Lit.int .u64 b3).wf = true ∧ (Lit.int .u64 b4).wf = true ∧ (Lit.int .u64 b5).wf = true := by
  obtain ⟨xs, m, _, _, _, hl, hf⟩ := DataW.trod_array Try.underlying24 h
  match xs, hl with
  | [y0, y1, y2, y3, y4, y5], _ =>
    have g0 := hf 0 (by omega)
    have g1 := hf 1 (by omega)
    have g2 := hf 2 (by omega)
    have g3 := hf 3 (by omega)
    have g4 := hf 4 (by omega)
    have g5 := hf 5 (by omega)
    simp [cells22] at g0 g1 g2 g3 g4 g5
    obtain ⟨x0, e0, _, w0⟩ := DataW.trod_int Try.underlying22 g0
    obtain ⟨x1, e1, _, w1⟩ := DataW.trod_int Try.underlying22 g1
    obtain ⟨x2, e2, _, w2⟩ := DataW.trod_int Try.underlying22 g2
    obtain ⟨x3, e3, _, w3⟩ := DataW.trod_int Try.underlying22 g3
    obtain ⟨x4, e4, _, w4⟩ := DataW.trod_int Try.underlying22 g4
    obtain ⟨x5, e5, _, w5⟩ := DataW.trod_int Try.underlying22 g5
    simp at e0 e1 e2 e3 e4 e5
    exact ⟨x0, x1, x2, x3, x4, x5, e0, e1, e2, e3, e4, e5, w0, w1, w2, w3, w4, w5⟩

theorem walk (b0 b1 b2 b3 b4 b5 : Int) (a1 : Int) (a2 : Option Addr) (len2 cap2 : Nat) (z2 : List Int) (a3 : Int) (w : World) (u0 : (Lit.int .u64 b0).wf = true) (u1 : (Lit.int .u64 b1).wf = true) (u2 : (Lit.int .u64 b2).wf = true) (u3 : (Lit.int .u64 b3).wf = true) (u4 : (Lit.int .u64 b4).wf = true) (u5 : (Lit.int .u64 b5).wf = true) (w1 : (Lit.int .u16 a1).wf = true) (w2 : IsRow .u8 w a2 len2 cap2 z2) (w3 : (Lit.int .u16 a3).wf = true) :
    Calls Try.prog 3 #[.agg #[.int .u64 b0, .int .u64 b1, .int .u64 b2, .int .u64 b3, .int .u64 b4, .int .u64 b5], .int .u16 a1, .slice a2 len2 cap2, .int .u16 a3] w fun e w' => e = .returned (.bool true) ∧ Below w.heap.size w w' := by
  obtain ⟨b1l, b1u⟩ := bounds_u16 w1; obtain ⟨b3l, b3u⟩ := bounds_u16 w3; obtain ⟨l, hl, hR, _⟩ := row_bytes w a2 len2 cap2 z2 w2; obtain ⟨ver, rfl⟩ := Int.eq_ofNat_of_zero_le b1l; obtain ⟨m, rfl⟩ := Int.eq_ofNat_of_zero_le b3l
  obtain ⟨c0l, c0u⟩ := bounds_u64 u0; obtain ⟨c1l, c1u⟩ := bounds_u64 u1; obtain ⟨c2l, c2u⟩ := bounds_u64 u2; obtain ⟨c3l, c3u⟩ := bounds_u64 u3; obtain ⟨c4l, c4u⟩ := bounds_u64 u4; obtain ⟨c5l, c5u⟩ := bounds_u64 u5
  obtain ⟨p0, rfl⟩ := Int.eq_ofNat_of_zero_le c0l; obtain ⟨p1, rfl⟩ := Int.eq_ofNat_of_zero_le c1l; obtain ⟨p2, rfl⟩ := Int.eq_ofNat_of_zero_le c2l; obtain ⟨p3, rfl⟩ := Int.eq_ofNat_of_zero_le c3l; obtain ⟨p4, rfl⟩ := Int.eq_ofNat_of_zero_le c4l; obtain ⟨p5, rfl⟩ := Int.eq_ofNat_of_zero_le c5l
  exact pkprogress w ver m len2 cap2 (by omega) (by omega) p0 p1 p2 p3 p4 p5 (by omega) (by omega) (by omega) (by omega) (by omega) (by omega) a2 l hl hR

set_option maxRecDepth 100000 in
theorem lifted (os : Os) (started : os.Started) (H : Type) (enc : TypeId × Value → H) :
    ReturnsInHanded {} Try.checked os 3 .any (Rows.fnPKProgressSpec.pre6 enc Try.prog Try.f3 Rows.fnPKProgressRow.domain false) (Rows.fnPKProgressSpec.post enc Try.prog Try.f3 false true false false) := by
  refine returnsInHanded_of_change (C := Try.checked) own started (by kernel_rfl) Try.func3
    (ChangeSpec.witness6 (enc := enc) (C := Try.checked) false ⟨#[], #[.agg #[.int .u64 0, .int .u64 0, .int .u64 0, .int .u64 0, .int .u64 0, .int .u64 0], .int .u16 0, .slice none 0 0, .int .u16 0], []⟩ 8 (by kernel_rfl) (by kernel_rfl) (by kernel_rfl) (by kernel_rfl)) ?_
  intro W base args ds gs before hval0 hW hcnd _
  have hval : ∀ (j : Nat) t v, Try.f3.params[j]? = some t → args[j]? = some v → Value.okWide Try.prog W .any base t v := hval0
  have hW' := hW
  obtain ⟨p, q, hA0, hV, rfl, hfz, hnd⟩ := hW
  have hA : DataW.TrodAll enc Try.prog W 0 (fun _ => true) true Try.f3.params.toList args.toList ds p := hA0
  rw [Try.params3] at hA hval
  obtain ⟨v0, vs0, d0, ds0, p0, q0, hargs, rfl, rfl, h0, r0⟩ := trodAll_cons hA
  obtain ⟨v1, vs1, d1, ds1, p1, q1, rfl, rfl, rfl, h1, r1⟩ := trodAll_cons r0
  obtain ⟨v2, vs2, d2, ds2, p2, q2, rfl, rfl, rfl, h2, r2⟩ := trodAll_cons r1
  obtain ⟨v3, vs3, d3, ds3, p3, q3, rfl, rfl, rfl, h3, r3⟩ := trodAll_cons r2
  obtain ⟨rfl, rfl, rfl⟩ := trodAll_nil r3
  obtain rfl : args = #[v0, v1, v2, v3] := by cases args; simp_all
  obtain ⟨rfl, rfl⟩ := trodVars_none hV
  obtain ⟨cs, rfl, hsz, _⟩ : ∃ cs, v0 = .agg cs ∧ cs.size = Try.prog.cellsOf 24 ∧ Row.okWide Try.prog W .any base 24 cs := by
    have := hval 0 24 v0 rfl rfl
    simpa [Value.okWide, Try.underlying24] using this
  rw [cells24] at hsz
  obtain ⟨l0⟩ := cs
  obtain ⟨c0, c1, c2, c3, c4, c5, rfl⟩ := list6 l0 hsz
  have k0 := h0
  have lt0 : ∀ x ∈ p0, x.block < W.heap.size := by obtain ⟨m, hm⟩ := k0; exact DataW.trod_lt m _ _ _ hm
  obtain ⟨fuel0, hf0⟩ := h0
  obtain ⟨b0, b1, b2, b3, b4, b5, rfl, rfl, rfl, rfl, rfl, rfl, u0, u1, u2, u3, u4, u5⟩ := opened hf0
  obtain ⟨a1, rfl, rfl, rfl, w1⟩ := open_int Try.underlying25 (hval 1 25 v1 rfl rfl) h1
  obtain ⟨a2, len2, cap2, rfl⟩ := okWide_slice Try.underlying26 (hval 2 26 v2 rfl rfl)
  have k2 := h2
  have lt2 : ∀ x ∈ p2, x.block < W.heap.size := by obtain ⟨m, hm⟩ := k2; exact DataW.trod_lt m _ _ _ hm
  obtain ⟨z2, w2⟩ : ∃ zs, IsRow .u8 W a2 len2 cap2 zs := by
    obtain ⟨fuel, hf⟩ := h2
    rcases open_ints Try.underlying26 Try.underlying5 (by kernel_rfl) hf with ⟨hcs, _⟩ | ⟨x, l, c, zs, hcs, _, hl, hm, hz, _, hcell, hwz⟩
    · simp [Value.cells] at hcs
      obtain ⟨rfl, rfl, rfl⟩ := hcs
      exact ⟨[], .inl ⟨rfl, rfl, rfl, rfl⟩⟩
    · simp [Value.cells] at hcs
      obtain ⟨rfl, rfl, rfl⟩ := hcs
      exact ⟨zs, .inr ⟨_, rfl, hl, hm, by simpa using hz, hcell, hwz⟩⟩
  obtain ⟨a3, rfl, rfl, rfl, w3⟩ := open_int Try.underlying25 (hval 3 25 v3 rfl rfl) h3
  clear hA0 hval0
  refine (walk b0 b1 b2 b3 b4 b5 a1 a2 len2 cap2 z2 a3 W u0 u1 u2 u3 u4 u5 w1 w2 w3).mono fun e W' ⟨he, bel⟩ => ?_
  subst he
  exact ⟨_, rfl, _, _, _, [], _, [], hW', trodAll_mk1 (shut_bool Try.underlying4 _), (trodAll_cons_mk (Below.trod laidOut (by kernel_rfl) (of_decide_eq_true (by kernel_rfl)) k0 bel lt0) (trodAll_cons_mk (shut_int Try.underlying25 w1) (trodAll_cons_mk (Below.trod laidOut (by kernel_rfl) (of_decide_eq_true (by kernel_rfl)) k2 bel lt2) (trodAll_cons_mk (shut_int Try.underlying25 w3) trodAll_mk0)))), rfl, bel.frame _, fun h => by cases h⟩

theorem over : Rows.fnPKProgressRow.holds Try.pinned (OpenSpec.ofChange Rows.fnPKProgressSpec) :=
  OpenClaim.holds_of_wide 3 Try.f3 rfl rfl rfl rfl rfl rfl rfl ⟨rfl, rfl, rfl, rfl, rfl⟩ rfl rfl rfl rfl rfl (by kernel_rfl) Try.func3 (by kernel_rfl)
    (of_decide_eq_true (by kernel_rfl)) (by unfold Func.isWrapper; first | (rw [if_pos (by decide +kernel)]; kernel_rfl) | (rw [if_neg (by decide +kernel)]; exact ⟨rfl, rfl⟩))
    (fun os started H enc _ => lifted os started H enc)

theorem proved : Rows.FnPKProgressSaid := over
#print axioms proved
end Go.Proofs.Ytlemmkcofmofiaa.fnPKProgress
