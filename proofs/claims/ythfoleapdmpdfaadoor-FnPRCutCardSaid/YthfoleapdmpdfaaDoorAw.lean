/- A varint got from bytes: what the laws on primitives look at first. Conditions: the bytes are those of 300. -/
import Derived.Test.YthfoleapdmpdfaaDoorUvr
import Derived.Test.YthfoleapdmpdfaaDoorPrOne
import Derived.Test.YthfoleapdmpdfaaDoorEq
import Derived.Test.YthfoleapdmpdfaaDoorRc1
namespace Go.Proofs.YthfoleapdmpdfaaDoor
open Go.RowKit Go.Lib
set_option linter.unusedVariables false
theorem newRdr (w : World) (A : Option Addr) (c : Nat) (d : List UInt8) (hR : Rd w 1 A d.length (Lib.byteCells d)) (hc : d.length ≤ c) (hA : ∀ i, ob A = some i → i < w.heap.size) :
    Calls Tryd.prog 24 #[.slice A d.length c] w fun e w' => e = .returned (.pointer (some ⟨w.heap.size + 1, 0, none⟩)) ∧
      RdrOn w' w.heap.size (w.heap.size + 1) w.heap.size (ob A) none d ∧ Keeps (fun _ => False) w w' ∧ w'.heap.size = w.heap.size + 2 := by
  go_enter Tryd.func24, Tryd.ntmps24
  go_wp2
  go_ret
  have h1 := Whole.new w 63 #[.slice none 0 0]
  have h2 := Whole.new (w.alloc (.cells #[.slice none 0 0] 63)) 74 #[.slice A d.length c, .pointer (some ⟨w.heap.size, 0, none⟩)]
  rw [World.size_alloc] at h2
  refine ⟨rfl, ⟨A, c, none, 0, 0, [], ⟨h2, h1.alloc _, ⟨by simp, .inl ⟨rfl, rfl⟩⟩, (hR.alloc _).alloc _, hc, by omega, by omega, fun i hi => ?_⟩, .inl rfl, rfl⟩, ((Keeps.refl _ _).alloc _).alloc _, by simp⟩
  have := hA i hi
  exact ⟨by omega, by omega, by simp [ob], by simp; omega⟩
theorem infoGot : (Tryd.prog.info? 34).map (·.size) = some 4 := by kernel_rfl
theorem infoGotE : (Tryd.prog.info? 34).map (fun i => (i.zero, i.size, i.bytes)) = some (some (.agg #[.int .u64 0, .int .u64 0, .slice none 0 0, .bool false]), 4, 48) := by kernel_rfl
theorem uv300 : uvGo 10 0 0 [172, 2] = some (300, []) := by decide
def GotRes (w : World) (base rb bb : Nat) (D R : Option Nat) (e : Ending) (w' : World) : Prop := e = .returned (.agg #[.int .u64 300, .int .u64 0, .slice none 0 0, .bool false]) ∧ Keeps (fun i => i = rb ∨ i = bb ∨ R = some i) w w'
theorem appNil (w : World) (ty : TypeId) : (Builtin.append_ #[22, 22] ty #[.slice none 0 0, .slice none 0 0]).run Tryd.prog w = .ok (.slice none 0 0) w := by
  obtain ⟨i0, hi0, hz0, hz1, hz2⟩ := info_parts infoU8
  simp [Builtin.append_, run_underlying Tryd.underlying22, sizeOf, typeInfo, hi0, Builtin.lenOf, Builtin.firstCells]
set_option maxRecDepth 100000 in
set_option maxHeartbeats 4000000 in
theorem more15 (w : World) (base rb bb : Nat) (D R : Option Nat) (hR : RdrOn w base rb bb D R [172, 2]) :
    Calls Tryd.prog 47 #[.agg #[.int .i64 15, .int .u64 0, .int .u64 0, .slice none 0 0], .pointer (some ⟨rb, 0, none⟩)] w fun e w' => GotRes w base rb bb D R e w' := by
  have hap := appNil
  obtain ⟨f1, f2, f3, f4, f5⟩ := hR.facts
  have K0 : Keeps (fun _ => False) w (((w.alloc (.cells #[.int .i64 15, .int .u64 0, .int .u64 0, .slice none 0 0] 28)).alloc (.cells #[.int .u64 0, .int .u64 0, .slice none 0 0, .bool false] 34)).alloc (.cells #[.int .u64 0, .int .u64 0, .slice none 0 0, .bool false] 34)) := (((Keeps.refl _ _).alloc _).alloc _).alloc _
  have HU := Lib.hid (uvarint_any _ base rb bb D R [172, 2] (hR.new K0))
  have hg1 : Whole (((w.alloc (.cells #[.int .i64 15, .int .u64 0, .int .u64 0, .slice none 0 0] 28)).alloc (.cells #[.int .u64 0, .int .u64 0, .slice none 0 0, .bool false] 34)).alloc (.cells #[.int .u64 0, .int .u64 0, .slice none 0 0, .bool false] 34)) (w.heap.size + 1) 34 #[.int .u64 0, .int .u64 0, .slice none 0 0, .bool false] := by
    have h := (Whole.new (w.alloc (.cells #[.int .i64 15, .int .u64 0, .int .u64 0, .slice none 0 0] 28)) 34 #[.int .u64 0, .int .u64 0, .slice none 0 0, .bool false]).alloc (.cells #[.int .u64 0, .int .u64 0, .slice none 0 0, .bool false] 34)
    simp only [World.size_alloc] at h
    exact h
  have hg2 : Whole (((w.alloc (.cells #[.int .i64 15, .int .u64 0, .int .u64 0, .slice none 0 0] 28)).alloc (.cells #[.int .u64 0, .int .u64 0, .slice none 0 0, .bool false] 34)).alloc (.cells #[.int .u64 0, .int .u64 0, .slice none 0 0, .bool false] 34)) (w.heap.size + 2) 34 #[.int .u64 0, .int .u64 0, .slice none 0 0, .bool false] := by
    have h := Whole.new ((w.alloc (.cells #[.int .i64 15, .int .u64 0, .int .u64 0, .slice none 0 0] 28)).alloc (.cells #[.int .u64 0, .int .u64 0, .slice none 0 0, .bool false] 34)) 34 #[.int .u64 0, .int .u64 0, .slice none 0 0, .bool false]
    simp only [World.size_alloc] at h
    exact h
  have HK0 := Lib.hid K0
  have HG1 := Lib.hid hg1
  have HG2 := Lib.hid hg2
  have HF := Lib.hid (And.intro f1 (And.intro f2 (And.intro f3 (And.intro f4 f5))))
  clear hR K0 hg1 hg2 f1 f2 f3 f4 f5
  go_enter Tryd.func47, Tryd.ntmps47
  go_wp2_with fail
  refine HU.out.mono ?_
  rintro e w4 (⟨x, l, hu, rfl, hgo⟩ | ⟨v, l, hu, _⟩)
  · rw [uv300] at hu
    injection hu with hu
    injection hu with hu1 hu2
    subst hu1 hu2
    have hn1 : ¬ (w.heap.size + 1 = rb ∨ w.heap.size + 1 = bb ∨ R = some (w.heap.size + 1)) := by
      rintro (h | h | h)
      · have := HF.out.1; omega
      · have := HF.out.2.1; omega
      · have := HF.out.2.2.2.2 _ h; omega
    have hn2 : ¬ (w.heap.size + 2 = rb ∨ w.heap.size + 2 = bb ∨ R = some (w.heap.size + 2)) := by
      rintro (h | h | h)
      · have := HF.out.1; omega
      · have := HF.out.2.1; omega
      · have := HF.out.2.2.2.2 _ h; omega
    have h1 := HG1.out.keeps hgo.keeps hn1
    have h2 := HG2.out.keeps hgo.keeps hn2
    have hne : w.heap.size + 1 ≠ w.heap.size + 2 := by omega
    have a0 : w4.cell? ⟨w.heap.size + 2, 0, none⟩ = some (.int .u64 0) := h2.cell 0
    have a1 : w4.cell? ⟨w.heap.size + 2, 1, none⟩ = some (.int .u64 0) := h2.cell 1
    have a2 : w4.cell? ⟨w.heap.size + 2, 2, none⟩ = some (.slice none 0 0) := h2.cell 2
    have a3 : w4.cell? ⟨w.heap.size + 2, 3, none⟩ = some (.bool false) := h2.cell 3
    have b0 : w4.cell? ⟨w.heap.size + 1, 0, none⟩ = some (.int .u64 0) := h1.cell 0
    have b1 : w4.cell? ⟨w.heap.size + 1, 1, none⟩ = some (.int .u64 0) := h1.cell 1
    have b2 : w4.cell? ⟨w.heap.size + 1, 2, none⟩ = some (.slice none 0 0) := h1.cell 2
    have b3 : w4.cell? ⟨w.heap.size + 1, 3, none⟩ = some (.bool false) := h1.cell 3
    have z20 : w4.frozen? ⟨w.heap.size + 2, 0, none⟩ = false := h2.frozen 0
    have z22 : w4.frozen? ⟨w.heap.size + 2, 2, none⟩ = false := h2.frozen 2
    have z10 : w4.frozen? ⟨w.heap.size + 1, 0, none⟩ = false := h1.frozen 0
    have z11 : w4.frozen? ⟨w.heap.size + 1, 1, none⟩ = false := h1.frozen 1
    have z12 : w4.frozen? ⟨w.heap.size + 1, 2, none⟩ = false := h1.frozen 2
    have z13 : w4.frozen? ⟨w.heap.size + 1, 3, none⟩ = false := h1.frozen 3
    have hl1 := h1.lt
    have hl2 := h2.lt
    go_wp2_with fail
    have r1 := (((((h1.far (p := ⟨w.heap.size + 2, 0, none⟩) (by show w.heap.size + 1 ≠ w.heap.size + 2; omega) (.int .u64 300)).far (p := ⟨w.heap.size + 2, 2, none⟩) (by show w.heap.size + 1 ≠ w.heap.size + 2; omega) (.slice none 0 0)).put 0 (.int .u64 300)).put 1 (.int .u64 0)).put 2 (.slice none 0 0)).put 3 (.bool false)
    have hld := run_loadVar_row (P := Tryd.prog) _ (w.heap.size + 1) 34 34 _ (0, 0) _ r1 Tryd.underlying34 rfl infoGot
    have kk : Keeps (fun i => i = rb ∨ i = bb ∨ R = some i) w w4 := (HK0.out.mono (S' := fun i => i = rb ∨ i = bb ∨ R = some i) (fun _ _ h => h.elim)).trans hgo.keeps (fun _ _ h => h)
    have k6 := (((((kk.setCell (p := ⟨w.heap.size + 2, 0, none⟩) (.inr (by show w.heap.size ≤ w.heap.size + 2; omega)) (.int .u64 300)).setCell (p := ⟨w.heap.size + 2, 2, none⟩) (.inr (by show w.heap.size ≤ w.heap.size + 2; omega)) (.slice none 0 0)).setCell (p := ⟨w.heap.size + 1, 0, none⟩) (.inr (by show w.heap.size ≤ w.heap.size + 1; omega)) (.int .u64 300)).setCell (p := ⟨w.heap.size + 1, 1, none⟩) (.inr (by show w.heap.size ≤ w.heap.size + 1; omega)) (.int .u64 0)).setCell (p := ⟨w.heap.size + 1, 2, none⟩) (.inr (by show w.heap.size ≤ w.heap.size + 1; omega)) (.slice none 0 0)).setCell (p := ⟨w.heap.size + 1, 3, none⟩) (.inr (by show w.heap.size ≤ w.heap.size + 1; omega)) (.bool false)
    exact bodyPost_ret (results_cell1 rfl _ ⟨w.heap.size + 1, 0, none⟩ _ _ rfl hld) rfl ⟨rfl, k6⟩
  · rw [uv300] at hu
    cases hu
set_option maxRecDepth 100000 in
set_option maxHeartbeats 4000000 in
theorem get15 (w : World) (base rb bb : Nat) (D R : Option Nat) (hR : RdrOn w base rb bb D R [172, 2]) :
    Calls Tryd.prog 25 #[.agg #[.int .i64 15, .int .u64 0, .int .u64 0, .slice none 0 0], .pointer (some ⟨rb, 0, none⟩)] w fun e w' => GotRes w base rb bb D R e w' := by
  have K0 : Keeps (fun _ => False) w (((w.alloc (.cells #[.int .i64 15, .int .u64 0, .int .u64 0, .slice none 0 0] 28)).alloc (.cells #[.int .u64 0, .int .u64 0, .slice none 0 0, .bool false] 34)).alloc (.cells #[.int .u64 0, .int .u64 0, .slice none 0 0, .bool false] 34)) := (((Keeps.refl _ _).alloc _).alloc _).alloc _
  have HM := Lib.hid (more15 _ base rb bb D R (hR.new K0))
  have hg1 : Whole (((w.alloc (.cells #[.int .i64 15, .int .u64 0, .int .u64 0, .slice none 0 0] 28)).alloc (.cells #[.int .u64 0, .int .u64 0, .slice none 0 0, .bool false] 34)).alloc (.cells #[.int .u64 0, .int .u64 0, .slice none 0 0, .bool false] 34)) (w.heap.size + 1) 34 #[.int .u64 0, .int .u64 0, .slice none 0 0, .bool false] := by
    have h := (Whole.new (w.alloc (.cells #[.int .i64 15, .int .u64 0, .int .u64 0, .slice none 0 0] 28)) 34 #[.int .u64 0, .int .u64 0, .slice none 0 0, .bool false]).alloc (.cells #[.int .u64 0, .int .u64 0, .slice none 0 0, .bool false] 34)
    simp only [World.size_alloc] at h
    exact h
  have HF := Lib.hid hR.facts
  have HK0 := Lib.hid K0
  have HG1 := Lib.hid hg1
  clear hR K0 hg1
  go_enter Tryd.func25, Tryd.ntmps25
  go_wp2_with fail
  refine HM.out.mono ?_
  rintro e w4 ⟨rfl, K4⟩
  have hn1 : ¬ (w.heap.size + 1 = rb ∨ w.heap.size + 1 = bb ∨ R = some (w.heap.size + 1)) := by
    rintro (h | h | h)
    · have := HF.out.1; omega
    · have := HF.out.2.1; omega
    · have := HF.out.2.2.2.2 _ h; omega
  have h1 := HG1.out.keeps K4 hn1
  have b0 : w4.cell? ⟨w.heap.size + 1, 0, none⟩ = some (.int .u64 0) := h1.cell 0
  have b1 : w4.cell? ⟨w.heap.size + 1, 1, none⟩ = some (.int .u64 0) := h1.cell 1
  have b2 : w4.cell? ⟨w.heap.size + 1, 2, none⟩ = some (.slice none 0 0) := h1.cell 2
  have b3 : w4.cell? ⟨w.heap.size + 1, 3, none⟩ = some (.bool false) := h1.cell 3
  have z10 : w4.frozen? ⟨w.heap.size + 1, 0, none⟩ = false := h1.frozen 0
  have z11 : w4.frozen? ⟨w.heap.size + 1, 1, none⟩ = false := h1.frozen 1
  have z12 : w4.frozen? ⟨w.heap.size + 1, 2, none⟩ = false := h1.frozen 2
  have z13 : w4.frozen? ⟨w.heap.size + 1, 3, none⟩ = false := h1.frozen 3
  have hl1 := h1.lt
  go_wp2_with fail
  have r1 := (((h1.put 0 (.int .u64 300)).put 1 (.int .u64 0)).put 2 (.slice none 0 0)).put 3 (.bool false)
  have hld := run_loadVar_row (P := Tryd.prog) _ (w.heap.size + 1) 34 34 _ (0, 0) _ r1 Tryd.underlying34 rfl infoGot
  have kk : Keeps (fun i => i = rb ∨ i = bb ∨ R = some i) w w4 := (HK0.out.mono (S' := fun i => i = rb ∨ i = bb ∨ R = some i) (fun _ _ h => h.elim)).trans K4 (fun _ _ h => h)
  have k6 := (((kk.setCell (p := ⟨w.heap.size + 1, 0, none⟩) (.inr (by show w.heap.size ≤ w.heap.size + 1; omega)) (.int .u64 300)).setCell (p := ⟨w.heap.size + 1, 1, none⟩) (.inr (by show w.heap.size ≤ w.heap.size + 1; omega)) (.int .u64 0)).setCell (p := ⟨w.heap.size + 1, 2, none⟩) (.inr (by show w.heap.size ≤ w.heap.size + 1; omega)) (.slice none 0 0)).setCell (p := ⟨w.heap.size + 1, 3, none⟩) (.inr (by show w.heap.size ≤ w.heap.size + 1; omega)) (.bool false)
  exact bodyPost_ret (results_cell1 rfl _ ⟨w.heap.size + 1, 0, none⟩ _ _ rfl hld) rfl ⟨rfl, k6⟩
end Go.Proofs.YthfoleapdmpdfaaDoor
