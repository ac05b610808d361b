/- The law FnPKHello of package laws holds for every input: the first message of a client has the bytes of the protocol, is read again, whatever stands behind it, and is not read if something is missing. -/
import Derived.Test.YtgnlfbekkddmiaaRows
import Derived.WalkKit
import Derived.ProofKit
import Derived.OpenShut
import Derived.ShutString
import Derived.ChangeOld
import Derived.ChangeSame
import Derived.Below
import Derived.Test.YtgnlfbekkddmiaaLHello
import Derived.Test.YtgnlfbekkddmiaaRow
namespace Go.Proofs.Ytgnlfbekkddmiaa.fnPKHello
open Go.ChangeShapes Go.WideShapes Go.ChangeAt Go.RowKit
open Go.ChangeMaps (open_string shut_string)
set_option linter.unusedVariables false

theorem own : ownKnob Try.prog.godebug = none := by kernel_rfl
theorem laidOut : laidOutB Try.prog = true := by kernel_rfl
def IsRow (k : IntKind) (w : World) (a : Option Addr) (len cap : Nat) (zs : List Int) : Prop :=
  (a = none ∧ len = 0 ∧ cap = 0 ∧ zs = []) ∨
  ∃ x, a = some x ∧ len ≤ cap ∧ cap ≤ maxLen ∧ zs.length = cap ∧ (∀ i, i < zs.length → w.cell? (x.add i) = some (.int k (zs.getD i 0))) ∧ ∀ n ∈ zs, (Lit.int k n).wf = true
theorem cellsOf0 : Try.prog.cellsOf 36 = 7 := by kernel_rfl
theorem cellOf3 : Try.prog.cellsOf 3 = 1 := by kernel_rfl
theorem cellOf9 : Try.prog.cellsOf 9 = 1 := by kernel_rfl
theorem list0 {α : Type} (l : List α) (h : (⟨l⟩ : Array α).size = 7) : ∃ c0 c1 c2 c3 c4 c5 c6, l = [c0, c1, c2, c3, c4, c5, c6] := by
  match l, h with
  | [c0, c1, c2, c3, c4, c5, c6], _ => exact ⟨c0, c1, c2, c3, c4, c5, c6, rfl⟩
theorem opened0 {H : Type} {enc : TypeId × Value → H} {w : World} {base fuel : Nat} {spare : Nat → Bool} {held : Bool} {c0 c1 c2 c3 c4 c5 c6 : Value} {x : DataW H × List MemPlace} (h : DataW.trod enc Try.prog w base spare held fuel 36 [c0, c1, c2, c3, c4, c5, c6] = some x) :
    ∃ (b0_0 : ByteArray) (b0_1 : Int) (b0_2 : Int) (b0_3 : Int) (b0_4 : ByteArray) (b0_5 : ByteArray) (b0_6 : ByteArray), c0 = .string b0_0 ∧ c1 = .int .i64 b0_1 ∧ c2 = .int .i64 b0_2 ∧ c3 = .int .i64 b0_3 ∧ c4 = .string b0_4 ∧ c5 = .string b0_5 ∧ c6 = .string b0_6 ∧ b0_0.size ≤ maxLen ∧ (Lit.int .i64 b0_1).wf = true ∧ (Lit.int .i64 b0_2).wf = true ∧ (Lit.int .i64 b0_3).wf = true ∧ b0_4.size ≤ maxLen ∧ b0_5.size ≤ maxLen ∧ b0_6.size ≤ maxLen := by
  obtain ⟨xs, m, _, _, _, hl, hf⟩ := DataW.trod_struct Try.underlying36 h
  have hl' : xs.length = 7 := hl
  match xs, hl' with
  | [y0, y1, y2, y3, y4, y5, y6], _ =>
    have g0 := hf 0 _ rfl
    have g1 := hf 1 _ rfl
    have g2 := hf 2 _ rfl
    have g3 := hf 3 _ rfl
    have g4 := hf 4 _ rfl
    have g5 := hf 5 _ rfl
    have g6 := hf 6 _ rfl
    simp [cellOf3, cellOf9] at g0 g1 g2 g3 g4 g5 g6
    obtain ⟨x0, e0, _, u0⟩ := DataW.trod_string Try.underlying9 g0
    obtain ⟨x1, e1, _, u1⟩ := DataW.trod_int Try.underlying3 g1
    obtain ⟨x2, e2, _, u2⟩ := DataW.trod_int Try.underlying3 g2
    obtain ⟨x3, e3, _, u3⟩ := DataW.trod_int Try.underlying3 g3
    obtain ⟨x4, e4, _, u4⟩ := DataW.trod_string Try.underlying9 g4
    obtain ⟨x5, e5, _, u5⟩ := DataW.trod_string Try.underlying9 g5
    obtain ⟨x6, e6, _, u6⟩ := DataW.trod_string Try.underlying9 g6
    simp at e0 e1 e2 e3 e4 e5 e6
    exact ⟨x0, x1, x2, x3, x4, x5, x6, e0, e1, e2, e3, e4, e5, e6, u0, u1, u2, u3, u4, u5, u6⟩

theorem walk (b0_0 : ByteArray) (b0_1 : Int) (b0_2 : Int) (b0_3 : Int) (b0_4 : ByteArray) (b0_5 : ByteArray) (b0_6 : ByteArray) (a1 : Option Addr) (len1 cap1 : Nat) (z1 : List Int) (a2 : Int) (w : World) (w0_0 : b0_0.size ≤ maxLen) (w0_1 : (Lit.int .i64 b0_1).wf = true) (w0_2 : (Lit.int .i64 b0_2).wf = true) (w0_3 : (Lit.int .i64 b0_3).wf = true) (w0_4 : b0_4.size ≤ maxLen) (w0_5 : b0_5.size ≤ maxLen) (w0_6 : b0_6.size ≤ maxLen) (w1 : IsRow .u8 w a1 len1 cap1 z1) (w2 : (Lit.int .u16 a2).wf = true) :
    Calls Try.prog 4 #[.agg #[.string b0_0, .int .i64 b0_1, .int .i64 b0_2, .int .i64 b0_3, .string b0_4, .string b0_5, .string b0_6], .slice a1 len1 cap1, .int .u16 a2] w fun e w' => e = .returned (.bool true) ∧ Below w.heap.size w w' := by
  obtain ⟨b2l, b2u⟩ := bounds_u16 w2; obtain ⟨l, hl, hR, _⟩ := row_bytes w a1 len1 cap1 z1 w1; obtain ⟨at_, rfl⟩ := Int.eq_ofNat_of_zero_le b2l; exact helWalk w at_ len1 cap1 (by omega) b0_0 b0_1 b0_2 b0_3 b0_4 b0_5 b0_6 a1 l hl hR

set_option maxRecDepth 100000 in
theorem lifted (os : Os) (started : os.Started) (H : Type) (enc : TypeId × Value → H) :
    ReturnsInHanded {} Try.checked os 4 .any (Rows.fnPKHelloSpec.pre6 enc Try.prog Try.f4 Rows.fnPKHelloRow.domain false) (Rows.fnPKHelloSpec.post enc Try.prog Try.f4 false true false false) := by
  refine returnsInHanded_of_change (C := Try.checked) own started (by kernel_rfl) Try.func4
    (ChangeSpec.witness6 (enc := enc) (C := Try.checked) false ⟨#[], #[.agg #[.string ByteArray.empty, .int .i64 0, .int .i64 0, .int .i64 0, .string ByteArray.empty, .string ByteArray.empty, .string ByteArray.empty], .slice none 0 0, .int .u16 0], []⟩ 8 (by kernel_rfl) (by kernel_rfl) (by kernel_rfl) (by kernel_rfl)) ?_
  intro W base args ds gs before hval0 hW hcnd _
  have hval : ∀ (j : Nat) t v, Try.f4.params[j]? = some t → args[j]? = some v → Value.okWide Try.prog W .any base t v := hval0
  have hW' := hW
  obtain ⟨p, q, hA0, hV, rfl, hfz, hnd⟩ := hW
  have hA : DataW.TrodAll enc Try.prog W 0 (fun _ => true) true Try.f4.params.toList args.toList ds p := hA0
  rw [Try.params4] at hA hval
  obtain ⟨v0, vs0, d0, ds0, p0, q0, hargs, rfl, rfl, h0, r0⟩ := trodAll_cons hA
  obtain ⟨v1, vs1, d1, ds1, p1, q1, rfl, rfl, rfl, h1, r1⟩ := trodAll_cons r0
  obtain ⟨v2, vs2, d2, ds2, p2, q2, rfl, rfl, rfl, h2, r2⟩ := trodAll_cons r1
  obtain ⟨rfl, rfl, rfl⟩ := trodAll_nil r2
  obtain rfl : args = #[v0, v1, v2] := by cases args; simp_all
  obtain ⟨rfl, rfl⟩ := trodVars_none hV
  have k0 := h0
  have lt0 : ∀ x ∈ p0, x.block < W.heap.size := by obtain ⟨m, hm⟩ := k0; exact DataW.trod_lt m _ _ _ hm
  have k1 := h1
  have lt1 : ∀ x ∈ p1, x.block < W.heap.size := by obtain ⟨m, hm⟩ := k1; exact DataW.trod_lt m _ _ _ hm
  have k2 := h2
  have lt2 : ∀ x ∈ p2, x.block < W.heap.size := by obtain ⟨m, hm⟩ := k2; exact DataW.trod_lt m _ _ _ hm
  obtain ⟨cs0, rfl, hsz0, _⟩ : ∃ cs, v0 = .agg cs ∧ cs.size = Try.prog.cellsOf 36 ∧ Row.okWide Try.prog W .any base 36 cs := by
    have := hval 0 36 v0 rfl rfl
    simpa [Value.okWide, Try.underlying36] using this
  rw [cellsOf0] at hsz0
  obtain ⟨l0⟩ := cs0
  obtain ⟨c0, c1, c2, c3, c4, c5, c6, rfl⟩ := list0 l0 hsz0
  obtain ⟨fuel0, hf0⟩ := h0
  obtain ⟨b0_0, b0_1, b0_2, b0_3, b0_4, b0_5, b0_6, rfl, rfl, rfl, rfl, rfl, rfl, rfl, w0_0, w0_1, w0_2, w0_3, w0_4, w0_5, w0_6⟩ := opened0 hf0
  obtain ⟨a1, len1, cap1, rfl⟩ := okWide_slice Try.underlying22 (hval 1 22 v1 rfl rfl)
  obtain ⟨z1, w1⟩ : ∃ zs, IsRow .u8 W a1 len1 cap1 zs := by
    obtain ⟨fuel, hf⟩ := h1
    rcases open_ints Try.underlying22 Try.underlying5 (by kernel_rfl) hf with ⟨hcs, _⟩ | ⟨x, l, c, zs, hcs, _, hl, hm, hz, _, hcell, hwz⟩
    · simp [Value.cells] at hcs
      obtain ⟨rfl, rfl, rfl⟩ := hcs
      exact ⟨[], .inl ⟨rfl, rfl, rfl, rfl⟩⟩
    · simp [Value.cells] at hcs
      obtain ⟨rfl, rfl, rfl⟩ := hcs
      exact ⟨zs, .inr ⟨_, rfl, hl, hm, by simpa using hz, hcell, hwz⟩⟩
  obtain ⟨a2, rfl, rfl, rfl, w2⟩ := open_int Try.underlying23 (hval 2 23 v2 rfl rfl) h2
  clear hA0 hval0
  refine (walk b0_0 b0_1 b0_2 b0_3 b0_4 b0_5 b0_6 a1 len1 cap1 z1 a2 W w0_0 w0_1 w0_2 w0_3 w0_4 w0_5 w0_6 w1 w2).mono fun e W' ⟨he, bel⟩ => ?_
  subst he
  exact ⟨_, rfl, _, _, _, [], _, [], hW', trodAll_mk1 (shut_bool Try.underlying4 _), (trodAll_cons_mk (Below.trod laidOut (by kernel_rfl) (of_decide_eq_true (by kernel_rfl)) k0 bel lt0) (trodAll_cons_mk (Below.trod laidOut (by kernel_rfl) (of_decide_eq_true (by kernel_rfl)) k1 bel lt1) (trodAll_cons_mk (Below.trod laidOut (by kernel_rfl) (of_decide_eq_true (by kernel_rfl)) k2 bel lt2) trodAll_mk0))), rfl, bel.frame _, fun h => by cases h⟩

theorem over : Rows.fnPKHelloRow.holds Try.pinned (OpenSpec.ofChange Rows.fnPKHelloSpec) :=
  OpenClaim.holds_of_wide 4 Try.f4 rfl rfl rfl rfl rfl rfl rfl ⟨rfl, rfl, rfl, rfl, rfl⟩ rfl rfl rfl rfl rfl (by kernel_rfl) Try.func4 (by kernel_rfl)
    (of_decide_eq_true (by kernel_rfl)) (by unfold Func.isWrapper; first | (rw [if_pos (by decide +kernel)]; kernel_rfl) | (rw [if_neg (by decide +kernel)]; exact ⟨rfl, rfl⟩))
    (fun os started H enc _ => lifted os started H enc)

theorem proved : Rows.FnPKHelloSaid := over
#print axioms proved
end Go.Proofs.Ytgnlfbekkddmiaa.fnPKHello
