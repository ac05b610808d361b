/- Zeros of whatever kind appended to nil: a row of the call's own. As an operation of a region that draws its order. Conditions: sizes far below the machine's. -/
import Derived.Test.YtpcjifhklofofaaZer
import Derived.Test.YtpcjifhklofofaaMem
namespace Go.Proofs.Ytpcjifhklofofaa
open Go.RowKit
set_option linter.unusedVariables false
theorem run_append_nil_own {P : Program} (w : World) (base : Nat) (t tn ty e : TypeId) (i : TypeInfo) (z : Value) (k kn : IntKind) (size bytes : Nat) (ht : P.underlying t = some (.slice e)) (htn : P.underlying tn = some (.int kn)) (hi : P.info? e = some i) (hz : i.zero = some z)
    (hsize : i.size = size) (hby : i.bytes = bytes) (hzs : z.cells.size = size) (hsz : 0 < size) (m : Nat) (h0 : 0 < m) (h63 : m ≤ maxLen) (hbytes : m * bytes ≤ 140737488355328) (hbase : base ≤ w.heap.size) :
    ∃ c w', (Builtin.append_ #[t, tn] ty #[.slice none 0 0, .int k m]).run P w = .ok (.slice (some ⟨w.heap.size, 0, none⟩) m c) w' ∧ w'.ownsRow base e size (.slice (some ⟨w.heap.size, 0, none⟩) m c) m (Builtin.zeroCells z.cells m).toList ∧ w.grownBy w' none ∧ w'.heap.size = w.heap.size + 1 := by
  have hr := Lib.run_append_nil_zeros (P := P) w t tn ty e i z k kn ht htn hi hz m h0 (by omega) (by simp only [maxLen] at h63; omega) (by rw [hby]; omega)
  have hge := grownCap_ge w m 0 e
  have hcm : grownCap w m 0 e ≤ maxLen := grownCap_le_maxLen w m 0 e h63
  refine ⟨_, _, hr, ⟨?_, .inr ⟨w.heap.size, _, _, rfl, hbase, heap_alloc_new w.drew _, hge, hcm, ?_, ?_⟩⟩, ⟨rfl, rfl, rfl, by simp, fun k hk _ => Go.heap_alloc_old w.drew _ hk⟩, by simp⟩
  · rw [Array.length_toList, size_zeroCells, hzs]
  · rw [Array.size_append, size_zeroCells, size_zeroCells, hzs, ← Nat.add_mul]
    congr 1
    omega
  · rw [Array.toList_append, List.take_left' (by rw [Array.length_toList, size_zeroCells, hzs])]
theorem step_append_nil {P : Program} (w : World) {ops : Array Oper} {o : Oper} {a : Act} {K : Act → World → Prop} {Q : Exit → Act → World → Prop} {E : Prop} (hgd : o.guard = none) (s x : Operand) (t tn : TypeId)
    (ho : o.op = .call { callee := .builtin .append, args := #[s, x], argTypes := #[t, tn] }) (base : Nat) (e : TypeId) (i : TypeInfo) (z : Value) (k kn : IntKind) (size bytes : Nat) (ht : P.underlying t = some (.slice e)) (htn : P.underlying tn = some (.int kn)) (hi : P.info? e = some i) (hz : i.zero = some z)
    (hsize : i.size = size) (hby : i.bytes = bytes) (hzs : z.cells.size = size) (hsz : 0 < size) (hs : a.eval s = .slice none 0 0) (m : Nat) (hx : a.eval x = .int k m) (h0 : 0 < m) (h63 : m ≤ maxLen) (hbytes : m * bytes ≤ 140737488355328) (hbase : base ≤ w.heap.size)
    (h : ∀ c w', w'.ownsRow base e size (.slice (some ⟨w.heap.size, 0, none⟩) m c) m (Builtin.zeroCells z.cells m).toList → w.grownBy w' none → w'.heap.size = w.heap.size + 1 → K (a.put o.dst (.slice (some ⟨w.heap.size, 0, none⟩) m c)) w') :
    if Region.wanted o (yielded ops a.tmps) = true then Oper.wp P o a w K Q else E := by
  have hw : Region.wanted o (yielded ops a.tmps) = true := by simp [Region.wanted, hgd]
  rw [if_pos hw]
  obtain ⟨c, w', hr, h2, h3, h4⟩ := run_append_nil_own (P := P) w base t tn o.type e i z k kn size bytes ht htn hi hz hsize hby hzs hsz m h0 h63 hbytes hbase
  exact Lib.wp_append_run w s x t tn ho _ _ hs hx _ w' hr (h c w' h2 h3 h4)
end Go.Proofs.Ytpcjifhklofofaa
