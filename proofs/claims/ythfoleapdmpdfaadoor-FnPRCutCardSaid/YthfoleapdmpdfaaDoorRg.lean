/- The arms of Prim.get that read numbers of one width. Conditions: those of the reader. -/
import Derived.Test.YthfoleapdmpdfaaDoorRh
namespace Go.Proofs.YthfoleapdmpdfaaDoor
open Go.RowKit Go.Lib
set_option linter.unusedVariables false
set_option maxRecDepth 100000 in
set_option maxHeartbeats 4000000 in
theorem get1 (w : World) (base rb bb : Nat) (D R : Option Nat) (d : List UInt8) (hR : RdrOn w base rb bb D R d) (hD : ∀ i, D = some i → i < w.heap.size) (u v : Int) (S : Option Addr) (n c : Nat) : Calls Tryd.prog 25 #[.agg #[.int .i64 1, .int .u64 u, .int .u64 v, .slice S n c], .pointer (some ⟨rb, 0, none⟩)] w (GetOk w base rb bb D R (numM 1 d)) := by
  obtain ⟨K0, hp0, hg1, hg2⟩ := start3 w 28 34 #[.int .i64 1, .int .u64 u, .int .u64 v, .slice S n c] #[.int .u64 0, .int .u64 0, .slice none 0 0, .bool false] #[.int .u64 0, .int .u64 0, .slice none 0 0, .bool false]
  have HK0 := Lib.hid K0
  have HP0 := Lib.hid hp0
  have HG1 := Lib.hid hg1
  have HG2 := Lib.hid hg2
  have HR := Lib.hid hR
  have HN := Lib.hid (own_new hR)
  have HD := Lib.hid hD
  have HU := Lib.hid (rwByte _ base rb bb D R d (hR.new K0))
  have HSZ := Lib.hid (size3 w (.cells #[.int .i64 1, .int .u64 u, .int .u64 v, .slice S n c] 28) (.cells #[.int .u64 0, .int .u64 0, .slice none 0 0, .bool false] 34) (.cells #[.int .u64 0, .int .u64 0, .slice none 0 0, .bool false] 34))
  clear hR K0 hp0 hg1 hg2 hD
  go_enter Tryd.func25, Tryd.ntmps25
  go_wp2_with fail
  refine HU.out.mono ?_
  rintro e w4 (⟨y, l, ho, rfl, hgo⟩ | ⟨x, l, ho, rfl, ⟨a, rfl⟩, hgo⟩)
  · obtain ⟨x, hy, hx, hM⟩ := fix_some ho
    simp only [Nat.reducePow] at hx
    rw [show fUInt8 x = .int .u8 (x : Int) from rfl] at hy
    have c2 : IntKind.u64.wrap (x : Int) = (x : Int) := by rw [IntKind.wrap_u64]; omega
    subst hy
    have HM := Lib.hid hM
    clear ho hM hx
    have h1 := HG1.out.keeps hgo.keeps (HN.out _ (.inl rfl))
    have h2 := HG2.out.keeps hgo.keeps (HN.out _ (.inr (.inl rfl)))
    have hne : w.heap.size + 1 ≠ w.heap.size + 2 := by omega
    have a0 : w4.cell? ⟨w.heap.size + 2, 0, none⟩ = some (.int .u64 0) := h2.cell 0
    have a1 : w4.cell? ⟨w.heap.size + 2, 1, none⟩ = some (.int .u64 0) := h2.cell 1
    have a2 : w4.cell? ⟨w.heap.size + 2, 2, none⟩ = some (.slice none 0 0) := h2.cell 2
    have a3 : w4.cell? ⟨w.heap.size + 2, 3, none⟩ = some (.bool false) := h2.cell 3
    have b0 : w4.cell? ⟨w.heap.size + 1, 0, none⟩ = some (.int .u64 0) := h1.cell 0
    have b1 : w4.cell? ⟨w.heap.size + 1, 1, none⟩ = some (.int .u64 0) := h1.cell 1
    have b2 : w4.cell? ⟨w.heap.size + 1, 2, none⟩ = some (.slice none 0 0) := h1.cell 2
    have b3 : w4.cell? ⟨w.heap.size + 1, 3, none⟩ = some (.bool false) := h1.cell 3
    have z20 : w4.frozen? ⟨w.heap.size + 2, 0, none⟩ = false := h2.frozen 0
    have z21 : w4.frozen? ⟨w.heap.size + 2, 1, none⟩ = false := h2.frozen 1
    have z22 : w4.frozen? ⟨w.heap.size + 2, 2, none⟩ = false := h2.frozen 2
    have z10 : w4.frozen? ⟨w.heap.size + 1, 0, none⟩ = false := h1.frozen 0
    have z11 : w4.frozen? ⟨w.heap.size + 1, 1, none⟩ = false := h1.frozen 1
    have z12 : w4.frozen? ⟨w.heap.size + 1, 2, none⟩ = false := h1.frozen 2
    have z13 : w4.frozen? ⟨w.heap.size + 1, 3, none⟩ = false := h1.frozen 3
    have hl1 := h1.lt
    have hl2 := h2.lt
    go_wp2_with fail
    have r1 := (((((h1.far (p := ⟨w.heap.size + 2, 0, none⟩) (by show w.heap.size + 1 ≠ w.heap.size + 2; omega) (.int .u64 (x : Int))).put 0 (.int .u64 (x : Int))).put 1 (.int .u64 0)).put 2 (.slice none 0 0)).put 3 (.bool false))
    have hld := run_loadVar_row (P := Tryd.prog) _ (w.heap.size + 1) 34 34 _ (0, 0) _ r1 Tryd.underlying34 rfl infoGot
    have k5 := ((((((Keeps.refl (fun i => w.heap.size ≤ i ∧ i < (((w.alloc (.cells #[.int .i64 1, .int .u64 u, .int .u64 v, .slice S n c] 28)).alloc (.cells #[.int .u64 0, .int .u64 0, .slice none 0 0, .bool false] 34)).alloc (.cells #[.int .u64 0, .int .u64 0, .slice none 0 0, .bool false] 34)).heap.size) w4).setCell (p := ⟨w.heap.size + 2, 0, none⟩) (.inl ⟨by show w.heap.size ≤ w.heap.size + 2; omega, by rw [HSZ.out]; show w.heap.size + 2 < _; omega⟩) (.int .u64 (x : Int))).setCell (p := ⟨w.heap.size + 1, 0, none⟩) (.inl ⟨by show w.heap.size ≤ w.heap.size + 1; omega, by rw [HSZ.out]; show w.heap.size + 1 < _; omega⟩) (.int .u64 (x : Int))).setCell (p := ⟨w.heap.size + 1, 1, none⟩) (.inl ⟨by show w.heap.size ≤ w.heap.size + 1; omega, by rw [HSZ.out]; show w.heap.size + 1 < _; omega⟩) (.int .u64 0)).setCell (p := ⟨w.heap.size + 1, 2, none⟩) (.inl ⟨by show w.heap.size ≤ w.heap.size + 1; omega, by rw [HSZ.out]; show w.heap.size + 1 < _; omega⟩) (.slice none 0 0)).setCell (p := ⟨w.heap.size + 1, 3, none⟩) (.inl ⟨by show w.heap.size ≤ w.heap.size + 1; omega, by rw [HSZ.out]; show w.heap.size + 1 < _; omega⟩) (.bool false))
    have hfin := go_put HR.out HK0.out hgo k5 HD.out
    exact bodyPost_ret (results_cell1 rfl _ ⟨w.heap.size + 1, 0, none⟩ _ _ rfl hld) rfl (by rw [HM.out]; exact get_done hfin)
  · have HM := Lib.hid (fix_none ho)
    clear ho
    have h1 := HG1.out.keeps hgo.keeps (HN.out _ (.inl rfl))
    have h2 := HG2.out.keeps hgo.keeps (HN.out _ (.inr (.inl rfl)))
    have hne : w.heap.size + 1 ≠ w.heap.size + 2 := by omega
    have a0 : w4.cell? ⟨w.heap.size + 2, 0, none⟩ = some (.int .u64 0) := h2.cell 0
    have a1 : w4.cell? ⟨w.heap.size + 2, 1, none⟩ = some (.int .u64 0) := h2.cell 1
    have a2 : w4.cell? ⟨w.heap.size + 2, 2, none⟩ = some (.slice none 0 0) := h2.cell 2
    have a3 : w4.cell? ⟨w.heap.size + 2, 3, none⟩ = some (.bool false) := h2.cell 3
    have b0 : w4.cell? ⟨w.heap.size + 1, 0, none⟩ = some (.int .u64 0) := h1.cell 0
    have b1 : w4.cell? ⟨w.heap.size + 1, 1, none⟩ = some (.int .u64 0) := h1.cell 1
    have b2 : w4.cell? ⟨w.heap.size + 1, 2, none⟩ = some (.slice none 0 0) := h1.cell 2
    have b3 : w4.cell? ⟨w.heap.size + 1, 3, none⟩ = some (.bool false) := h1.cell 3
    have z20 : w4.frozen? ⟨w.heap.size + 2, 0, none⟩ = false := h2.frozen 0
    have z21 : w4.frozen? ⟨w.heap.size + 2, 1, none⟩ = false := h2.frozen 1
    have z22 : w4.frozen? ⟨w.heap.size + 2, 2, none⟩ = false := h2.frozen 2
    have z10 : w4.frozen? ⟨w.heap.size + 1, 0, none⟩ = false := h1.frozen 0
    have z11 : w4.frozen? ⟨w.heap.size + 1, 1, none⟩ = false := h1.frozen 1
    have z12 : w4.frozen? ⟨w.heap.size + 1, 2, none⟩ = false := h1.frozen 2
    have z13 : w4.frozen? ⟨w.heap.size + 1, 3, none⟩ = false := h1.frozen 3
    have hl1 := h1.lt
    have hl2 := h2.lt
    go_wp2_with fail
    have r1 := (((((h1.far (p := ⟨w.heap.size + 2, 0, none⟩) (by show w.heap.size + 1 ≠ w.heap.size + 2; omega) (.int .u64 0)).put 0 (.int .u64 0)).put 1 (.int .u64 0)).put 2 (.slice none 0 0)).put 3 (.bool true))
    have hld := run_loadVar_row (P := Tryd.prog) _ (w.heap.size + 1) 34 34 _ (0, 0) _ r1 Tryd.underlying34 rfl infoGot
    have k5 := ((((((Keeps.refl (fun i => w.heap.size ≤ i ∧ i < (((w.alloc (.cells #[.int .i64 1, .int .u64 u, .int .u64 v, .slice S n c] 28)).alloc (.cells #[.int .u64 0, .int .u64 0, .slice none 0 0, .bool false] 34)).alloc (.cells #[.int .u64 0, .int .u64 0, .slice none 0 0, .bool false] 34)).heap.size) w4).setCell (p := ⟨w.heap.size + 2, 0, none⟩) (.inl ⟨by show w.heap.size ≤ w.heap.size + 2; omega, by rw [HSZ.out]; show w.heap.size + 2 < _; omega⟩) (.int .u64 0)).setCell (p := ⟨w.heap.size + 1, 0, none⟩) (.inl ⟨by show w.heap.size ≤ w.heap.size + 1; omega, by rw [HSZ.out]; show w.heap.size + 1 < _; omega⟩) (.int .u64 0)).setCell (p := ⟨w.heap.size + 1, 1, none⟩) (.inl ⟨by show w.heap.size ≤ w.heap.size + 1; omega, by rw [HSZ.out]; show w.heap.size + 1 < _; omega⟩) (.int .u64 0)).setCell (p := ⟨w.heap.size + 1, 2, none⟩) (.inl ⟨by show w.heap.size ≤ w.heap.size + 1; omega, by rw [HSZ.out]; show w.heap.size + 1 < _; omega⟩) (.slice none 0 0)).setCell (p := ⟨w.heap.size + 1, 3, none⟩) (.inl ⟨by show w.heap.size ≤ w.heap.size + 1; omega, by rw [HSZ.out]; show w.heap.size + 1 < _; omega⟩) (.bool true))
    have hfin := go_put HR.out HK0.out hgo k5 HD.out
    exact bodyPost_ret (results_cell1 rfl _ ⟨w.heap.size + 1, 0, none⟩ _ _ rfl hld) rfl (.inr ⟨l, HM.out, rfl, hfin⟩)
set_option maxRecDepth 100000 in
set_option maxHeartbeats 4000000 in
theorem get3 (w : World) (base rb bb : Nat) (D R : Option Nat) (d : List UInt8) (hR : RdrOn w base rb bb D R d) (hD : ∀ i, D = some i → i < w.heap.size) (u v : Int) (S : Option Addr) (n c : Nat) : Calls Tryd.prog 25 #[.agg #[.int .i64 3, .int .u64 u, .int .u64 v, .slice S n c], .pointer (some ⟨rb, 0, none⟩)] w (GetOk w base rb bb D R (numM 1 d)) := by
  obtain ⟨K0, hp0, hg1, hg2⟩ := start3 w 28 34 #[.int .i64 3, .int .u64 u, .int .u64 v, .slice S n c] #[.int .u64 0, .int .u64 0, .slice none 0 0, .bool false] #[.int .u64 0, .int .u64 0, .slice none 0 0, .bool false]
  have HK0 := Lib.hid K0
  have HP0 := Lib.hid hp0
  have HG1 := Lib.hid hg1
  have HG2 := Lib.hid hg2
  have HR := Lib.hid hR
  have HN := Lib.hid (own_new hR)
  have HD := Lib.hid hD
  have HU := Lib.hid (rwInt8 _ base rb bb D R d (hR.new K0))
  have HSZ := Lib.hid (size3 w (.cells #[.int .i64 3, .int .u64 u, .int .u64 v, .slice S n c] 28) (.cells #[.int .u64 0, .int .u64 0, .slice none 0 0, .bool false] 34) (.cells #[.int .u64 0, .int .u64 0, .slice none 0 0, .bool false] 34))
  clear hR K0 hp0 hg1 hg2 hD
  go_enter Tryd.func25, Tryd.ntmps25
  go_wp2_with fail
  refine HU.out.mono ?_
  rintro e w4 (⟨y, l, ho, rfl, hgo⟩ | ⟨x, l, ho, rfl, ⟨a, rfl⟩, hgo⟩)
  · obtain ⟨x, hy, hx, hM⟩ := fix_some ho
    simp only [Nat.reducePow] at hx
    obtain ⟨z, hz⟩ : ∃ z, z = IntKind.i8.wrap (x : Int) := ⟨_, rfl⟩
    rw [show fInt8 x = .int .i8 z by rw [hz]; rfl] at hy
    have c1 : IntKind.u8.wrap z = (x : Int) := by rw [hz]; simp [IntKind.wrap, IntKind.bits, IntKind.signed]; split <;> omega
    have c2 : IntKind.u64.wrap (x : Int) = (x : Int) := by rw [IntKind.wrap_u64]; omega
    subst hy
    have HM := Lib.hid hM
    clear ho hM hx hz
    have h1 := HG1.out.keeps hgo.keeps (HN.out _ (.inl rfl))
    have h2 := HG2.out.keeps hgo.keeps (HN.out _ (.inr (.inl rfl)))
    have hne : w.heap.size + 1 ≠ w.heap.size + 2 := by omega
    have a0 : w4.cell? ⟨w.heap.size + 2, 0, none⟩ = some (.int .u64 0) := h2.cell 0
    have a1 : w4.cell? ⟨w.heap.size + 2, 1, none⟩ = some (.int .u64 0) := h2.cell 1
    have a2 : w4.cell? ⟨w.heap.size + 2, 2, none⟩ = some (.slice none 0 0) := h2.cell 2
    have a3 : w4.cell? ⟨w.heap.size + 2, 3, none⟩ = some (.bool false) := h2.cell 3
    have b0 : w4.cell? ⟨w.heap.size + 1, 0, none⟩ = some (.int .u64 0) := h1.cell 0
    have b1 : w4.cell? ⟨w.heap.size + 1, 1, none⟩ = some (.int .u64 0) := h1.cell 1
    have b2 : w4.cell? ⟨w.heap.size + 1, 2, none⟩ = some (.slice none 0 0) := h1.cell 2
    have b3 : w4.cell? ⟨w.heap.size + 1, 3, none⟩ = some (.bool false) := h1.cell 3
    have z20 : w4.frozen? ⟨w.heap.size + 2, 0, none⟩ = false := h2.frozen 0
    have z21 : w4.frozen? ⟨w.heap.size + 2, 1, none⟩ = false := h2.frozen 1
    have z22 : w4.frozen? ⟨w.heap.size + 2, 2, none⟩ = false := h2.frozen 2
    have z10 : w4.frozen? ⟨w.heap.size + 1, 0, none⟩ = false := h1.frozen 0
    have z11 : w4.frozen? ⟨w.heap.size + 1, 1, none⟩ = false := h1.frozen 1
    have z12 : w4.frozen? ⟨w.heap.size + 1, 2, none⟩ = false := h1.frozen 2
    have z13 : w4.frozen? ⟨w.heap.size + 1, 3, none⟩ = false := h1.frozen 3
    have hl1 := h1.lt
    have hl2 := h2.lt
    go_wp2_with fail
    have r1 := (((((h1.far (p := ⟨w.heap.size + 2, 0, none⟩) (by show w.heap.size + 1 ≠ w.heap.size + 2; omega) (.int .u64 (x : Int))).put 0 (.int .u64 (x : Int))).put 1 (.int .u64 0)).put 2 (.slice none 0 0)).put 3 (.bool false))
    have hld := run_loadVar_row (P := Tryd.prog) _ (w.heap.size + 1) 34 34 _ (0, 0) _ r1 Tryd.underlying34 rfl infoGot
    have k5 := ((((((Keeps.refl (fun i => w.heap.size ≤ i ∧ i < (((w.alloc (.cells #[.int .i64 3, .int .u64 u, .int .u64 v, .slice S n c] 28)).alloc (.cells #[.int .u64 0, .int .u64 0, .slice none 0 0, .bool false] 34)).alloc (.cells #[.int .u64 0, .int .u64 0, .slice none 0 0, .bool false] 34)).heap.size) w4).setCell (p := ⟨w.heap.size + 2, 0, none⟩) (.inl ⟨by show w.heap.size ≤ w.heap.size + 2; omega, by rw [HSZ.out]; show w.heap.size + 2 < _; omega⟩) (.int .u64 (x : Int))).setCell (p := ⟨w.heap.size + 1, 0, none⟩) (.inl ⟨by show w.heap.size ≤ w.heap.size + 1; omega, by rw [HSZ.out]; show w.heap.size + 1 < _; omega⟩) (.int .u64 (x : Int))).setCell (p := ⟨w.heap.size + 1, 1, none⟩) (.inl ⟨by show w.heap.size ≤ w.heap.size + 1; omega, by rw [HSZ.out]; show w.heap.size + 1 < _; omega⟩) (.int .u64 0)).setCell (p := ⟨w.heap.size + 1, 2, none⟩) (.inl ⟨by show w.heap.size ≤ w.heap.size + 1; omega, by rw [HSZ.out]; show w.heap.size + 1 < _; omega⟩) (.slice none 0 0)).setCell (p := ⟨w.heap.size + 1, 3, none⟩) (.inl ⟨by show w.heap.size ≤ w.heap.size + 1; omega, by rw [HSZ.out]; show w.heap.size + 1 < _; omega⟩) (.bool false))
    have hfin := go_put HR.out HK0.out hgo k5 HD.out
    exact bodyPost_ret (results_cell1 rfl _ ⟨w.heap.size + 1, 0, none⟩ _ _ rfl hld) rfl (by rw [HM.out]; exact get_done hfin)
  · have HM := Lib.hid (fix_none ho)
    clear ho
    have h1 := HG1.out.keeps hgo.keeps (HN.out _ (.inl rfl))
    have h2 := HG2.out.keeps hgo.keeps (HN.out _ (.inr (.inl rfl)))
    have hne : w.heap.size + 1 ≠ w.heap.size + 2 := by omega
    have a0 : w4.cell? ⟨w.heap.size + 2, 0, none⟩ = some (.int .u64 0) := h2.cell 0
    have a1 : w4.cell? ⟨w.heap.size + 2, 1, none⟩ = some (.int .u64 0) := h2.cell 1
    have a2 : w4.cell? ⟨w.heap.size + 2, 2, none⟩ = some (.slice none 0 0) := h2.cell 2
    have a3 : w4.cell? ⟨w.heap.size + 2, 3, none⟩ = some (.bool false) := h2.cell 3
    have b0 : w4.cell? ⟨w.heap.size + 1, 0, none⟩ = some (.int .u64 0) := h1.cell 0
    have b1 : w4.cell? ⟨w.heap.size + 1, 1, none⟩ = some (.int .u64 0) := h1.cell 1
    have b2 : w4.cell? ⟨w.heap.size + 1, 2, none⟩ = some (.slice none 0 0) := h1.cell 2
    have b3 : w4.cell? ⟨w.heap.size + 1, 3, none⟩ = some (.bool false) := h1.cell 3
    have z20 : w4.frozen? ⟨w.heap.size + 2, 0, none⟩ = false := h2.frozen 0
    have z21 : w4.frozen? ⟨w.heap.size + 2, 1, none⟩ = false := h2.frozen 1
    have z22 : w4.frozen? ⟨w.heap.size + 2, 2, none⟩ = false := h2.frozen 2
    have z10 : w4.frozen? ⟨w.heap.size + 1, 0, none⟩ = false := h1.frozen 0
    have z11 : w4.frozen? ⟨w.heap.size + 1, 1, none⟩ = false := h1.frozen 1
    have z12 : w4.frozen? ⟨w.heap.size + 1, 2, none⟩ = false := h1.frozen 2
    have z13 : w4.frozen? ⟨w.heap.size + 1, 3, none⟩ = false := h1.frozen 3
    have hl1 := h1.lt
    have hl2 := h2.lt
    go_wp2_with fail
    have r1 := (((((h1.far (p := ⟨w.heap.size + 2, 0, none⟩) (by show w.heap.size + 1 ≠ w.heap.size + 2; omega) (.int .u64 0)).put 0 (.int .u64 0)).put 1 (.int .u64 0)).put 2 (.slice none 0 0)).put 3 (.bool true))
    have hld := run_loadVar_row (P := Tryd.prog) _ (w.heap.size + 1) 34 34 _ (0, 0) _ r1 Tryd.underlying34 rfl infoGot
    have k5 := ((((((Keeps.refl (fun i => w.heap.size ≤ i ∧ i < (((w.alloc (.cells #[.int .i64 3, .int .u64 u, .int .u64 v, .slice S n c] 28)).alloc (.cells #[.int .u64 0, .int .u64 0, .slice none 0 0, .bool false] 34)).alloc (.cells #[.int .u64 0, .int .u64 0, .slice none 0 0, .bool false] 34)).heap.size) w4).setCell (p := ⟨w.heap.size + 2, 0, none⟩) (.inl ⟨by show w.heap.size ≤ w.heap.size + 2; omega, by rw [HSZ.out]; show w.heap.size + 2 < _; omega⟩) (.int .u64 0)).setCell (p := ⟨w.heap.size + 1, 0, none⟩) (.inl ⟨by show w.heap.size ≤ w.heap.size + 1; omega, by rw [HSZ.out]; show w.heap.size + 1 < _; omega⟩) (.int .u64 0)).setCell (p := ⟨w.heap.size + 1, 1, none⟩) (.inl ⟨by show w.heap.size ≤ w.heap.size + 1; omega, by rw [HSZ.out]; show w.heap.size + 1 < _; omega⟩) (.int .u64 0)).setCell (p := ⟨w.heap.size + 1, 2, none⟩) (.inl ⟨by show w.heap.size ≤ w.heap.size + 1; omega, by rw [HSZ.out]; show w.heap.size + 1 < _; omega⟩) (.slice none 0 0)).setCell (p := ⟨w.heap.size + 1, 3, none⟩) (.inl ⟨by show w.heap.size ≤ w.heap.size + 1; omega, by rw [HSZ.out]; show w.heap.size + 1 < _; omega⟩) (.bool true))
    have hfin := go_put HR.out HK0.out hgo k5 HD.out
    exact bodyPost_ret (results_cell1 rfl _ ⟨w.heap.size + 1, 0, none⟩ _ _ rfl hld) rfl (.inr ⟨l, HM.out, rfl, hfin⟩)
set_option maxRecDepth 100000 in
set_option maxHeartbeats 4000000 in
theorem get4 (w : World) (base rb bb : Nat) (D R : Option Nat) (d : List UInt8) (hR : RdrOn w base rb bb D R d) (hD : ∀ i, D = some i → i < w.heap.size) (u v : Int) (S : Option Addr) (n c : Nat) : Calls Tryd.prog 25 #[.agg #[.int .i64 4, .int .u64 u, .int .u64 v, .slice S n c], .pointer (some ⟨rb, 0, none⟩)] w (GetOk w base rb bb D R (numM 2 d)) := by
  obtain ⟨K0, hp0, hg1, hg2⟩ := start3 w 28 34 #[.int .i64 4, .int .u64 u, .int .u64 v, .slice S n c] #[.int .u64 0, .int .u64 0, .slice none 0 0, .bool false] #[.int .u64 0, .int .u64 0, .slice none 0 0, .bool false]
  have HK0 := Lib.hid K0
  have HP0 := Lib.hid hp0
  have HG1 := Lib.hid hg1
  have HG2 := Lib.hid hg2
  have HR := Lib.hid hR
  have HN := Lib.hid (own_new hR)
  have HD := Lib.hid hD
  have HU := Lib.hid (rwInt16 _ base rb bb D R d (hR.new K0))
  have HSZ := Lib.hid (size3 w (.cells #[.int .i64 4, .int .u64 u, .int .u64 v, .slice S n c] 28) (.cells #[.int .u64 0, .int .u64 0, .slice none 0 0, .bool false] 34) (.cells #[.int .u64 0, .int .u64 0, .slice none 0 0, .bool false] 34))
  clear hR K0 hp0 hg1 hg2 hD
  go_enter Tryd.func25, Tryd.ntmps25
  go_wp2_with fail
  refine HU.out.mono ?_
  rintro e w4 (⟨y, l, ho, rfl, hgo⟩ | ⟨x, l, ho, rfl, ⟨a, rfl⟩, hgo⟩)
  · obtain ⟨x, hy, hx, hM⟩ := fix_some ho
    simp only [Nat.reducePow] at hx
    obtain ⟨z, hz⟩ : ∃ z, z = IntKind.i16.wrap (x : Int) := ⟨_, rfl⟩
    rw [show fInt16 x = .int .i16 z by rw [hz]; rfl] at hy
    have c1 : IntKind.u16.wrap z = (x : Int) := by rw [hz]; simp [IntKind.wrap, IntKind.bits, IntKind.signed]; split <;> omega
    have c2 : IntKind.u64.wrap (x : Int) = (x : Int) := by rw [IntKind.wrap_u64]; omega
    subst hy
    have HM := Lib.hid hM
    clear ho hM hx hz
    have h1 := HG1.out.keeps hgo.keeps (HN.out _ (.inl rfl))
    have h2 := HG2.out.keeps hgo.keeps (HN.out _ (.inr (.inl rfl)))
    have hne : w.heap.size + 1 ≠ w.heap.size + 2 := by omega
    have a0 : w4.cell? ⟨w.heap.size + 2, 0, none⟩ = some (.int .u64 0) := h2.cell 0
    have a1 : w4.cell? ⟨w.heap.size + 2, 1, none⟩ = some (.int .u64 0) := h2.cell 1
    have a2 : w4.cell? ⟨w.heap.size + 2, 2, none⟩ = some (.slice none 0 0) := h2.cell 2
    have a3 : w4.cell? ⟨w.heap.size + 2, 3, none⟩ = some (.bool false) := h2.cell 3
    have b0 : w4.cell? ⟨w.heap.size + 1, 0, none⟩ = some (.int .u64 0) := h1.cell 0
    have b1 : w4.cell? ⟨w.heap.size + 1, 1, none⟩ = some (.int .u64 0) := h1.cell 1
    have b2 : w4.cell? ⟨w.heap.size + 1, 2, none⟩ = some (.slice none 0 0) := h1.cell 2
    have b3 : w4.cell? ⟨w.heap.size + 1, 3, none⟩ = some (.bool false) := h1.cell 3
    have z20 : w4.frozen? ⟨w.heap.size + 2, 0, none⟩ = false := h2.frozen 0
    have z21 : w4.frozen? ⟨w.heap.size + 2, 1, none⟩ = false := h2.frozen 1
    have z22 : w4.frozen? ⟨w.heap.size + 2, 2, none⟩ = false := h2.frozen 2
    have z10 : w4.frozen? ⟨w.heap.size + 1, 0, none⟩ = false := h1.frozen 0
    have z11 : w4.frozen? ⟨w.heap.size + 1, 1, none⟩ = false := h1.frozen 1
    have z12 : w4.frozen? ⟨w.heap.size + 1, 2, none⟩ = false := h1.frozen 2
    have z13 : w4.frozen? ⟨w.heap.size + 1, 3, none⟩ = false := h1.frozen 3
    have hl1 := h1.lt
    have hl2 := h2.lt
    go_wp2_with fail
    have r1 := (((((h1.far (p := ⟨w.heap.size + 2, 0, none⟩) (by show w.heap.size + 1 ≠ w.heap.size + 2; omega) (.int .u64 (x : Int))).put 0 (.int .u64 (x : Int))).put 1 (.int .u64 0)).put 2 (.slice none 0 0)).put 3 (.bool false))
    have hld := run_loadVar_row (P := Tryd.prog) _ (w.heap.size + 1) 34 34 _ (0, 0) _ r1 Tryd.underlying34 rfl infoGot
    have k5 := ((((((Keeps.refl (fun i => w.heap.size ≤ i ∧ i < (((w.alloc (.cells #[.int .i64 4, .int .u64 u, .int .u64 v, .slice S n c] 28)).alloc (.cells #[.int .u64 0, .int .u64 0, .slice none 0 0, .bool false] 34)).alloc (.cells #[.int .u64 0, .int .u64 0, .slice none 0 0, .bool false] 34)).heap.size) w4).setCell (p := ⟨w.heap.size + 2, 0, none⟩) (.inl ⟨by show w.heap.size ≤ w.heap.size + 2; omega, by rw [HSZ.out]; show w.heap.size + 2 < _; omega⟩) (.int .u64 (x : Int))).setCell (p := ⟨w.heap.size + 1, 0, none⟩) (.inl ⟨by show w.heap.size ≤ w.heap.size + 1; omega, by rw [HSZ.out]; show w.heap.size + 1 < _; omega⟩) (.int .u64 (x : Int))).setCell (p := ⟨w.heap.size + 1, 1, none⟩) (.inl ⟨by show w.heap.size ≤ w.heap.size + 1; omega, by rw [HSZ.out]; show w.heap.size + 1 < _; omega⟩) (.int .u64 0)).setCell (p := ⟨w.heap.size + 1, 2, none⟩) (.inl ⟨by show w.heap.size ≤ w.heap.size + 1; omega, by rw [HSZ.out]; show w.heap.size + 1 < _; omega⟩) (.slice none 0 0)).setCell (p := ⟨w.heap.size + 1, 3, none⟩) (.inl ⟨by show w.heap.size ≤ w.heap.size + 1; omega, by rw [HSZ.out]; show w.heap.size + 1 < _; omega⟩) (.bool false))
    have hfin := go_put HR.out HK0.out hgo k5 HD.out
    exact bodyPost_ret (results_cell1 rfl _ ⟨w.heap.size + 1, 0, none⟩ _ _ rfl hld) rfl (by rw [HM.out]; exact get_done hfin)
  · have HM := Lib.hid (fix_none ho)
    clear ho
    have h1 := HG1.out.keeps hgo.keeps (HN.out _ (.inl rfl))
    have h2 := HG2.out.keeps hgo.keeps (HN.out _ (.inr (.inl rfl)))
    have hne : w.heap.size + 1 ≠ w.heap.size + 2 := by omega
    have a0 : w4.cell? ⟨w.heap.size + 2, 0, none⟩ = some (.int .u64 0) := h2.cell 0
    have a1 : w4.cell? ⟨w.heap.size + 2, 1, none⟩ = some (.int .u64 0) := h2.cell 1
    have a2 : w4.cell? ⟨w.heap.size + 2, 2, none⟩ = some (.slice none 0 0) := h2.cell 2
    have a3 : w4.cell? ⟨w.heap.size + 2, 3, none⟩ = some (.bool false) := h2.cell 3
    have b0 : w4.cell? ⟨w.heap.size + 1, 0, none⟩ = some (.int .u64 0) := h1.cell 0
    have b1 : w4.cell? ⟨w.heap.size + 1, 1, none⟩ = some (.int .u64 0) := h1.cell 1
    have b2 : w4.cell? ⟨w.heap.size + 1, 2, none⟩ = some (.slice none 0 0) := h1.cell 2
    have b3 : w4.cell? ⟨w.heap.size + 1, 3, none⟩ = some (.bool false) := h1.cell 3
    have z20 : w4.frozen? ⟨w.heap.size + 2, 0, none⟩ = false := h2.frozen 0
    have z21 : w4.frozen? ⟨w.heap.size + 2, 1, none⟩ = false := h2.frozen 1
    have z22 : w4.frozen? ⟨w.heap.size + 2, 2, none⟩ = false := h2.frozen 2
    have z10 : w4.frozen? ⟨w.heap.size + 1, 0, none⟩ = false := h1.frozen 0
    have z11 : w4.frozen? ⟨w.heap.size + 1, 1, none⟩ = false := h1.frozen 1
    have z12 : w4.frozen? ⟨w.heap.size + 1, 2, none⟩ = false := h1.frozen 2
    have z13 : w4.frozen? ⟨w.heap.size + 1, 3, none⟩ = false := h1.frozen 3
    have hl1 := h1.lt
    have hl2 := h2.lt
    go_wp2_with fail
    have r1 := (((((h1.far (p := ⟨w.heap.size + 2, 0, none⟩) (by show w.heap.size + 1 ≠ w.heap.size + 2; omega) (.int .u64 0)).put 0 (.int .u64 0)).put 1 (.int .u64 0)).put 2 (.slice none 0 0)).put 3 (.bool true))
    have hld := run_loadVar_row (P := Tryd.prog) _ (w.heap.size + 1) 34 34 _ (0, 0) _ r1 Tryd.underlying34 rfl infoGot
    have k5 := ((((((Keeps.refl (fun i => w.heap.size ≤ i ∧ i < (((w.alloc (.cells #[.int .i64 4, .int .u64 u, .int .u64 v, .slice S n c] 28)).alloc (.cells #[.int .u64 0, .int .u64 0, .slice none 0 0, .bool false] 34)).alloc (.cells #[.int .u64 0, .int .u64 0, .slice none 0 0, .bool false] 34)).heap.size) w4).setCell (p := ⟨w.heap.size + 2, 0, none⟩) (.inl ⟨by show w.heap.size ≤ w.heap.size + 2; omega, by rw [HSZ.out]; show w.heap.size + 2 < _; omega⟩) (.int .u64 0)).setCell (p := ⟨w.heap.size + 1, 0, none⟩) (.inl ⟨by show w.heap.size ≤ w.heap.size + 1; omega, by rw [HSZ.out]; show w.heap.size + 1 < _; omega⟩) (.int .u64 0)).setCell (p := ⟨w.heap.size + 1, 1, none⟩) (.inl ⟨by show w.heap.size ≤ w.heap.size + 1; omega, by rw [HSZ.out]; show w.heap.size + 1 < _; omega⟩) (.int .u64 0)).setCell (p := ⟨w.heap.size + 1, 2, none⟩) (.inl ⟨by show w.heap.size ≤ w.heap.size + 1; omega, by rw [HSZ.out]; show w.heap.size + 1 < _; omega⟩) (.slice none 0 0)).setCell (p := ⟨w.heap.size + 1, 3, none⟩) (.inl ⟨by show w.heap.size ≤ w.heap.size + 1; omega, by rw [HSZ.out]; show w.heap.size + 1 < _; omega⟩) (.bool true))
    have hfin := go_put HR.out HK0.out hgo k5 HD.out
    exact bodyPost_ret (results_cell1 rfl _ ⟨w.heap.size + 1, 0, none⟩ _ _ rfl hld) rfl (.inr ⟨l, HM.out, rfl, hfin⟩)
set_option maxRecDepth 100000 in
set_option maxHeartbeats 4000000 in
theorem get5 (w : World) (base rb bb : Nat) (D R : Option Nat) (d : List UInt8) (hR : RdrOn w base rb bb D R d) (hD : ∀ i, D = some i → i < w.heap.size) (u v : Int) (S : Option Addr) (n c : Nat) : Calls Tryd.prog 25 #[.agg #[.int .i64 5, .int .u64 u, .int .u64 v, .slice S n c], .pointer (some ⟨rb, 0, none⟩)] w (GetOk w base rb bb D R (numM 4 d)) := by
  obtain ⟨K0, hp0, hg1, hg2⟩ := start3 w 28 34 #[.int .i64 5, .int .u64 u, .int .u64 v, .slice S n c] #[.int .u64 0, .int .u64 0, .slice none 0 0, .bool false] #[.int .u64 0, .int .u64 0, .slice none 0 0, .bool false]
  have HK0 := Lib.hid K0
  have HP0 := Lib.hid hp0
  have HG1 := Lib.hid hg1
  have HG2 := Lib.hid hg2
  have HR := Lib.hid hR
  have HN := Lib.hid (own_new hR)
  have HD := Lib.hid hD
  have HU := Lib.hid (rwInt32 _ base rb bb D R d (hR.new K0))
  have HSZ := Lib.hid (size3 w (.cells #[.int .i64 5, .int .u64 u, .int .u64 v, .slice S n c] 28) (.cells #[.int .u64 0, .int .u64 0, .slice none 0 0, .bool false] 34) (.cells #[.int .u64 0, .int .u64 0, .slice none 0 0, .bool false] 34))
  clear hR K0 hp0 hg1 hg2 hD
  go_enter Tryd.func25, Tryd.ntmps25
  go_wp2_with fail
  refine HU.out.mono ?_
  rintro e w4 (⟨y, l, ho, rfl, hgo⟩ | ⟨x, l, ho, rfl, ⟨a, rfl⟩, hgo⟩)
  · obtain ⟨x, hy, hx, hM⟩ := fix_some ho
    simp only [Nat.reducePow] at hx
    obtain ⟨z, hz⟩ : ∃ z, z = IntKind.i32.wrap (x : Int) := ⟨_, rfl⟩
    rw [show fInt32 x = .int .i32 z by rw [hz]; rfl] at hy
    have c1 : IntKind.u32.wrap z = (x : Int) := by rw [hz]; simp [IntKind.wrap, IntKind.bits, IntKind.signed]; split <;> omega
    have c2 : IntKind.u64.wrap (x : Int) = (x : Int) := by rw [IntKind.wrap_u64]; omega
    subst hy
    have HM := Lib.hid hM
    clear ho hM hx hz
    have h1 := HG1.out.keeps hgo.keeps (HN.out _ (.inl rfl))
    have h2 := HG2.out.keeps hgo.keeps (HN.out _ (.inr (.inl rfl)))
    have hne : w.heap.size + 1 ≠ w.heap.size + 2 := by omega
    have a0 : w4.cell? ⟨w.heap.size + 2, 0, none⟩ = some (.int .u64 0) := h2.cell 0
    have a1 : w4.cell? ⟨w.heap.size + 2, 1, none⟩ = some (.int .u64 0) := h2.cell 1
    have a2 : w4.cell? ⟨w.heap.size + 2, 2, none⟩ = some (.slice none 0 0) := h2.cell 2
    have a3 : w4.cell? ⟨w.heap.size + 2, 3, none⟩ = some (.bool false) := h2.cell 3
    have b0 : w4.cell? ⟨w.heap.size + 1, 0, none⟩ = some (.int .u64 0) := h1.cell 0
    have b1 : w4.cell? ⟨w.heap.size + 1, 1, none⟩ = some (.int .u64 0) := h1.cell 1
    have b2 : w4.cell? ⟨w.heap.size + 1, 2, none⟩ = some (.slice none 0 0) := h1.cell 2
    have b3 : w4.cell? ⟨w.heap.size + 1, 3, none⟩ = some (.bool false) := h1.cell 3
    have z20 : w4.frozen? ⟨w.heap.size + 2, 0, none⟩ = false := h2.frozen 0
    have z21 : w4.frozen? ⟨w.heap.size + 2, 1, none⟩ = false := h2.frozen 1
    have z22 : w4.frozen? ⟨w.heap.size + 2, 2, none⟩ = false := h2.frozen 2
    have z10 : w4.frozen? ⟨w.heap.size + 1, 0, none⟩ = false := h1.frozen 0
    have z11 : w4.frozen? ⟨w.heap.size + 1, 1, none⟩ = false := h1.frozen 1
    have z12 : w4.frozen? ⟨w.heap.size + 1, 2, none⟩ = false := h1.frozen 2
    have z13 : w4.frozen? ⟨w.heap.size + 1, 3, none⟩ = false := h1.frozen 3
    have hl1 := h1.lt
    have hl2 := h2.lt
    go_wp2_with fail
    have r1 := (((((h1.far (p := ⟨w.heap.size + 2, 0, none⟩) (by show w.heap.size + 1 ≠ w.heap.size + 2; omega) (.int .u64 (x : Int))).put 0 (.int .u64 (x : Int))).put 1 (.int .u64 0)).put 2 (.slice none 0 0)).put 3 (.bool false))
    have hld := run_loadVar_row (P := Tryd.prog) _ (w.heap.size + 1) 34 34 _ (0, 0) _ r1 Tryd.underlying34 rfl infoGot
    have k5 := ((((((Keeps.refl (fun i => w.heap.size ≤ i ∧ i < (((w.alloc (.cells #[.int .i64 5, .int .u64 u, .int .u64 v, .slice S n c] 28)).alloc (.cells #[.int .u64 0, .int .u64 0, .slice none 0 0, .bool false] 34)).alloc (.cells #[.int .u64 0, .int .u64 0, .slice none 0 0, .bool false] 34)).heap.size) w4).setCell (p := ⟨w.heap.size + 2, 0, none⟩) (.inl ⟨by show w.heap.size ≤ w.heap.size + 2; omega, by rw [HSZ.out]; show w.heap.size + 2 < _; omega⟩) (.int .u64 (x : Int))).setCell (p := ⟨w.heap.size + 1, 0, none⟩) (.inl ⟨by show w.heap.size ≤ w.heap.size + 1; omega, by rw [HSZ.out]; show w.heap.size + 1 < _; omega⟩) (.int .u64 (x : Int))).setCell (p := ⟨w.heap.size + 1, 1, none⟩) (.inl ⟨by show w.heap.size ≤ w.heap.size + 1; omega, by rw [HSZ.out]; show w.heap.size + 1 < _; omega⟩) (.int .u64 0)).setCell (p := ⟨w.heap.size + 1, 2, none⟩) (.inl ⟨by show w.heap.size ≤ w.heap.size + 1; omega, by rw [HSZ.out]; show w.heap.size + 1 < _; omega⟩) (.slice none 0 0)).setCell (p := ⟨w.heap.size + 1, 3, none⟩) (.inl ⟨by show w.heap.size ≤ w.heap.size + 1; omega, by rw [HSZ.out]; show w.heap.size + 1 < _; omega⟩) (.bool false))
    have hfin := go_put HR.out HK0.out hgo k5 HD.out
    exact bodyPost_ret (results_cell1 rfl _ ⟨w.heap.size + 1, 0, none⟩ _ _ rfl hld) rfl (by rw [HM.out]; exact get_done hfin)
  · have HM := Lib.hid (fix_none ho)
    clear ho
    have h1 := HG1.out.keeps hgo.keeps (HN.out _ (.inl rfl))
    have h2 := HG2.out.keeps hgo.keeps (HN.out _ (.inr (.inl rfl)))
    have hne : w.heap.size + 1 ≠ w.heap.size + 2 := by omega
    have a0 : w4.cell? ⟨w.heap.size + 2, 0, none⟩ = some (.int .u64 0) := h2.cell 0
    have a1 : w4.cell? ⟨w.heap.size + 2, 1, none⟩ = some (.int .u64 0) := h2.cell 1
    have a2 : w4.cell? ⟨w.heap.size + 2, 2, none⟩ = some (.slice none 0 0) := h2.cell 2
    have a3 : w4.cell? ⟨w.heap.size + 2, 3, none⟩ = some (.bool false) := h2.cell 3
    have b0 : w4.cell? ⟨w.heap.size + 1, 0, none⟩ = some (.int .u64 0) := h1.cell 0
    have b1 : w4.cell? ⟨w.heap.size + 1, 1, none⟩ = some (.int .u64 0) := h1.cell 1
    have b2 : w4.cell? ⟨w.heap.size + 1, 2, none⟩ = some (.slice none 0 0) := h1.cell 2
    have b3 : w4.cell? ⟨w.heap.size + 1, 3, none⟩ = some (.bool false) := h1.cell 3
    have z20 : w4.frozen? ⟨w.heap.size + 2, 0, none⟩ = false := h2.frozen 0
    have z21 : w4.frozen? ⟨w.heap.size + 2, 1, none⟩ = false := h2.frozen 1
    have z22 : w4.frozen? ⟨w.heap.size + 2, 2, none⟩ = false := h2.frozen 2
    have z10 : w4.frozen? ⟨w.heap.size + 1, 0, none⟩ = false := h1.frozen 0
    have z11 : w4.frozen? ⟨w.heap.size + 1, 1, none⟩ = false := h1.frozen 1
    have z12 : w4.frozen? ⟨w.heap.size + 1, 2, none⟩ = false := h1.frozen 2
    have z13 : w4.frozen? ⟨w.heap.size + 1, 3, none⟩ = false := h1.frozen 3
    have hl1 := h1.lt
    have hl2 := h2.lt
    go_wp2_with fail
    have r1 := (((((h1.far (p := ⟨w.heap.size + 2, 0, none⟩) (by show w.heap.size + 1 ≠ w.heap.size + 2; omega) (.int .u64 0)).put 0 (.int .u64 0)).put 1 (.int .u64 0)).put 2 (.slice none 0 0)).put 3 (.bool true))
    have hld := run_loadVar_row (P := Tryd.prog) _ (w.heap.size + 1) 34 34 _ (0, 0) _ r1 Tryd.underlying34 rfl infoGot
    have k5 := ((((((Keeps.refl (fun i => w.heap.size ≤ i ∧ i < (((w.alloc (.cells #[.int .i64 5, .int .u64 u, .int .u64 v, .slice S n c] 28)).alloc (.cells #[.int .u64 0, .int .u64 0, .slice none 0 0, .bool false] 34)).alloc (.cells #[.int .u64 0, .int .u64 0, .slice none 0 0, .bool false] 34)).heap.size) w4).setCell (p := ⟨w.heap.size + 2, 0, none⟩) (.inl ⟨by show w.heap.size ≤ w.heap.size + 2; omega, by rw [HSZ.out]; show w.heap.size + 2 < _; omega⟩) (.int .u64 0)).setCell (p := ⟨w.heap.size + 1, 0, none⟩) (.inl ⟨by show w.heap.size ≤ w.heap.size + 1; omega, by rw [HSZ.out]; show w.heap.size + 1 < _; omega⟩) (.int .u64 0)).setCell (p := ⟨w.heap.size + 1, 1, none⟩) (.inl ⟨by show w.heap.size ≤ w.heap.size + 1; omega, by rw [HSZ.out]; show w.heap.size + 1 < _; omega⟩) (.int .u64 0)).setCell (p := ⟨w.heap.size + 1, 2, none⟩) (.inl ⟨by show w.heap.size ≤ w.heap.size + 1; omega, by rw [HSZ.out]; show w.heap.size + 1 < _; omega⟩) (.slice none 0 0)).setCell (p := ⟨w.heap.size + 1, 3, none⟩) (.inl ⟨by show w.heap.size ≤ w.heap.size + 1; omega, by rw [HSZ.out]; show w.heap.size + 1 < _; omega⟩) (.bool true))
    have hfin := go_put HR.out HK0.out hgo k5 HD.out
    exact bodyPost_ret (results_cell1 rfl _ ⟨w.heap.size + 1, 0, none⟩ _ _ rfl hld) rfl (.inr ⟨l, HM.out, rfl, hfin⟩)
set_option maxRecDepth 100000 in
set_option maxHeartbeats 4000000 in
theorem get6 (w : World) (base rb bb : Nat) (D R : Option Nat) (d : List UInt8) (hR : RdrOn w base rb bb D R d) (hD : ∀ i, D = some i → i < w.heap.size) (u v : Int) (S : Option Addr) (n c : Nat) : Calls Tryd.prog 25 #[.agg #[.int .i64 6, .int .u64 u, .int .u64 v, .slice S n c], .pointer (some ⟨rb, 0, none⟩)] w (GetOk w base rb bb D R (numM 8 d)) := by
  obtain ⟨K0, hp0, hg1, hg2⟩ := start3 w 28 34 #[.int .i64 6, .int .u64 u, .int .u64 v, .slice S n c] #[.int .u64 0, .int .u64 0, .slice none 0 0, .bool false] #[.int .u64 0, .int .u64 0, .slice none 0 0, .bool false]
  have HK0 := Lib.hid K0
  have HP0 := Lib.hid hp0
  have HG1 := Lib.hid hg1
  have HG2 := Lib.hid hg2
  have HR := Lib.hid hR
  have HN := Lib.hid (own_new hR)
  have HD := Lib.hid hD
  have HU := Lib.hid (rwInt64 _ base rb bb D R d (hR.new K0))
  have HSZ := Lib.hid (size3 w (.cells #[.int .i64 6, .int .u64 u, .int .u64 v, .slice S n c] 28) (.cells #[.int .u64 0, .int .u64 0, .slice none 0 0, .bool false] 34) (.cells #[.int .u64 0, .int .u64 0, .slice none 0 0, .bool false] 34))
  clear hR K0 hp0 hg1 hg2 hD
  go_enter Tryd.func25, Tryd.ntmps25
  go_wp2_with fail
  refine HU.out.mono ?_
  rintro e w4 (⟨y, l, ho, rfl, hgo⟩ | ⟨x, l, ho, rfl, ⟨a, rfl⟩, hgo⟩)
  · obtain ⟨x, hy, hx, hM⟩ := fix_some ho
    simp only [Nat.reducePow] at hx
    obtain ⟨z, hz⟩ : ∃ z, z = IntKind.i64.wrap (x : Int) := ⟨_, rfl⟩
    rw [show fInt64 x = .int .i64 z by rw [hz]; rfl] at hy
    have c1 : IntKind.u64.wrap z = (x : Int) := by rw [hz]; simp [IntKind.wrap, IntKind.bits, IntKind.signed]; split <;> omega
    subst hy
    have HM := Lib.hid hM
    clear ho hM hx hz
    have h1 := HG1.out.keeps hgo.keeps (HN.out _ (.inl rfl))
    have h2 := HG2.out.keeps hgo.keeps (HN.out _ (.inr (.inl rfl)))
    have hne : w.heap.size + 1 ≠ w.heap.size + 2 := by omega
    have a0 : w4.cell? ⟨w.heap.size + 2, 0, none⟩ = some (.int .u64 0) := h2.cell 0
    have a1 : w4.cell? ⟨w.heap.size + 2, 1, none⟩ = some (.int .u64 0) := h2.cell 1
    have a2 : w4.cell? ⟨w.heap.size + 2, 2, none⟩ = some (.slice none 0 0) := h2.cell 2
    have a3 : w4.cell? ⟨w.heap.size + 2, 3, none⟩ = some (.bool false) := h2.cell 3
    have b0 : w4.cell? ⟨w.heap.size + 1, 0, none⟩ = some (.int .u64 0) := h1.cell 0
    have b1 : w4.cell? ⟨w.heap.size + 1, 1, none⟩ = some (.int .u64 0) := h1.cell 1
    have b2 : w4.cell? ⟨w.heap.size + 1, 2, none⟩ = some (.slice none 0 0) := h1.cell 2
    have b3 : w4.cell? ⟨w.heap.size + 1, 3, none⟩ = some (.bool false) := h1.cell 3
    have z20 : w4.frozen? ⟨w.heap.size + 2, 0, none⟩ = false := h2.frozen 0
    have z21 : w4.frozen? ⟨w.heap.size + 2, 1, none⟩ = false := h2.frozen 1
    have z22 : w4.frozen? ⟨w.heap.size + 2, 2, none⟩ = false := h2.frozen 2
    have z10 : w4.frozen? ⟨w.heap.size + 1, 0, none⟩ = false := h1.frozen 0
    have z11 : w4.frozen? ⟨w.heap.size + 1, 1, none⟩ = false := h1.frozen 1
    have z12 : w4.frozen? ⟨w.heap.size + 1, 2, none⟩ = false := h1.frozen 2
    have z13 : w4.frozen? ⟨w.heap.size + 1, 3, none⟩ = false := h1.frozen 3
    have hl1 := h1.lt
    have hl2 := h2.lt
    go_wp2_with fail
    have r1 := (((((h1.far (p := ⟨w.heap.size + 2, 0, none⟩) (by show w.heap.size + 1 ≠ w.heap.size + 2; omega) (.int .u64 (x : Int))).put 0 (.int .u64 (x : Int))).put 1 (.int .u64 0)).put 2 (.slice none 0 0)).put 3 (.bool false))
    have hld := run_loadVar_row (P := Tryd.prog) _ (w.heap.size + 1) 34 34 _ (0, 0) _ r1 Tryd.underlying34 rfl infoGot
    have k5 := ((((((Keeps.refl (fun i => w.heap.size ≤ i ∧ i < (((w.alloc (.cells #[.int .i64 6, .int .u64 u, .int .u64 v, .slice S n c] 28)).alloc (.cells #[.int .u64 0, .int .u64 0, .slice none 0 0, .bool false] 34)).alloc (.cells #[.int .u64 0, .int .u64 0, .slice none 0 0, .bool false] 34)).heap.size) w4).setCell (p := ⟨w.heap.size + 2, 0, none⟩) (.inl ⟨by show w.heap.size ≤ w.heap.size + 2; omega, by rw [HSZ.out]; show w.heap.size + 2 < _; omega⟩) (.int .u64 (x : Int))).setCell (p := ⟨w.heap.size + 1, 0, none⟩) (.inl ⟨by show w.heap.size ≤ w.heap.size + 1; omega, by rw [HSZ.out]; show w.heap.size + 1 < _; omega⟩) (.int .u64 (x : Int))).setCell (p := ⟨w.heap.size + 1, 1, none⟩) (.inl ⟨by show w.heap.size ≤ w.heap.size + 1; omega, by rw [HSZ.out]; show w.heap.size + 1 < _; omega⟩) (.int .u64 0)).setCell (p := ⟨w.heap.size + 1, 2, none⟩) (.inl ⟨by show w.heap.size ≤ w.heap.size + 1; omega, by rw [HSZ.out]; show w.heap.size + 1 < _; omega⟩) (.slice none 0 0)).setCell (p := ⟨w.heap.size + 1, 3, none⟩) (.inl ⟨by show w.heap.size ≤ w.heap.size + 1; omega, by rw [HSZ.out]; show w.heap.size + 1 < _; omega⟩) (.bool false))
    have hfin := go_put HR.out HK0.out hgo k5 HD.out
    exact bodyPost_ret (results_cell1 rfl _ ⟨w.heap.size + 1, 0, none⟩ _ _ rfl hld) rfl (by rw [HM.out]; exact get_done hfin)
  · have HM := Lib.hid (fix_none ho)
    clear ho
    have h1 := HG1.out.keeps hgo.keeps (HN.out _ (.inl rfl))
    have h2 := HG2.out.keeps hgo.keeps (HN.out _ (.inr (.inl rfl)))
    have hne : w.heap.size + 1 ≠ w.heap.size + 2 := by omega
    have a0 : w4.cell? ⟨w.heap.size + 2, 0, none⟩ = some (.int .u64 0) := h2.cell 0
    have a1 : w4.cell? ⟨w.heap.size + 2, 1, none⟩ = some (.int .u64 0) := h2.cell 1
    have a2 : w4.cell? ⟨w.heap.size + 2, 2, none⟩ = some (.slice none 0 0) := h2.cell 2
    have a3 : w4.cell? ⟨w.heap.size + 2, 3, none⟩ = some (.bool false) := h2.cell 3
    have b0 : w4.cell? ⟨w.heap.size + 1, 0, none⟩ = some (.int .u64 0) := h1.cell 0
    have b1 : w4.cell? ⟨w.heap.size + 1, 1, none⟩ = some (.int .u64 0) := h1.cell 1
    have b2 : w4.cell? ⟨w.heap.size + 1, 2, none⟩ = some (.slice none 0 0) := h1.cell 2
    have b3 : w4.cell? ⟨w.heap.size + 1, 3, none⟩ = some (.bool false) := h1.cell 3
    have z20 : w4.frozen? ⟨w.heap.size + 2, 0, none⟩ = false := h2.frozen 0
    have z21 : w4.frozen? ⟨w.heap.size + 2, 1, none⟩ = false := h2.frozen 1
    have z22 : w4.frozen? ⟨w.heap.size + 2, 2, none⟩ = false := h2.frozen 2
    have z10 : w4.frozen? ⟨w.heap.size + 1, 0, none⟩ = false := h1.frozen 0
    have z11 : w4.frozen? ⟨w.heap.size + 1, 1, none⟩ = false := h1.frozen 1
    have z12 : w4.frozen? ⟨w.heap.size + 1, 2, none⟩ = false := h1.frozen 2
    have z13 : w4.frozen? ⟨w.heap.size + 1, 3, none⟩ = false := h1.frozen 3
    have hl1 := h1.lt
    have hl2 := h2.lt
    go_wp2_with fail
    have r1 := (((((h1.far (p := ⟨w.heap.size + 2, 0, none⟩) (by show w.heap.size + 1 ≠ w.heap.size + 2; omega) (.int .u64 0)).put 0 (.int .u64 0)).put 1 (.int .u64 0)).put 2 (.slice none 0 0)).put 3 (.bool true))
    have hld := run_loadVar_row (P := Tryd.prog) _ (w.heap.size + 1) 34 34 _ (0, 0) _ r1 Tryd.underlying34 rfl infoGot
    have k5 := ((((((Keeps.refl (fun i => w.heap.size ≤ i ∧ i < (((w.alloc (.cells #[.int .i64 6, .int .u64 u, .int .u64 v, .slice S n c] 28)).alloc (.cells #[.int .u64 0, .int .u64 0, .slice none 0 0, .bool false] 34)).alloc (.cells #[.int .u64 0, .int .u64 0, .slice none 0 0, .bool false] 34)).heap.size) w4).setCell (p := ⟨w.heap.size + 2, 0, none⟩) (.inl ⟨by show w.heap.size ≤ w.heap.size + 2; omega, by rw [HSZ.out]; show w.heap.size + 2 < _; omega⟩) (.int .u64 0)).setCell (p := ⟨w.heap.size + 1, 0, none⟩) (.inl ⟨by show w.heap.size ≤ w.heap.size + 1; omega, by rw [HSZ.out]; show w.heap.size + 1 < _; omega⟩) (.int .u64 0)).setCell (p := ⟨w.heap.size + 1, 1, none⟩) (.inl ⟨by show w.heap.size ≤ w.heap.size + 1; omega, by rw [HSZ.out]; show w.heap.size + 1 < _; omega⟩) (.int .u64 0)).setCell (p := ⟨w.heap.size + 1, 2, none⟩) (.inl ⟨by show w.heap.size ≤ w.heap.size + 1; omega, by rw [HSZ.out]; show w.heap.size + 1 < _; omega⟩) (.slice none 0 0)).setCell (p := ⟨w.heap.size + 1, 3, none⟩) (.inl ⟨by show w.heap.size ≤ w.heap.size + 1; omega, by rw [HSZ.out]; show w.heap.size + 1 < _; omega⟩) (.bool true))
    have hfin := go_put HR.out HK0.out hgo k5 HD.out
    exact bodyPost_ret (results_cell1 rfl _ ⟨w.heap.size + 1, 0, none⟩ _ _ rfl hld) rfl (.inr ⟨l, HM.out, rfl, hfin⟩)
set_option maxRecDepth 100000 in
set_option maxHeartbeats 4000000 in
theorem get7 (w : World) (base rb bb : Nat) (D R : Option Nat) (d : List UInt8) (hR : RdrOn w base rb bb D R d) (hD : ∀ i, D = some i → i < w.heap.size) (u v : Int) (S : Option Addr) (n c : Nat) : Calls Tryd.prog 25 #[.agg #[.int .i64 7, .int .u64 u, .int .u64 v, .slice S n c], .pointer (some ⟨rb, 0, none⟩)] w (GetOk w base rb bb D R (numM 1 d)) := by
  obtain ⟨K0, hp0, hg1, hg2⟩ := start3 w 28 34 #[.int .i64 7, .int .u64 u, .int .u64 v, .slice S n c] #[.int .u64 0, .int .u64 0, .slice none 0 0, .bool false] #[.int .u64 0, .int .u64 0, .slice none 0 0, .bool false]
  have HK0 := Lib.hid K0
  have HP0 := Lib.hid hp0
  have HG1 := Lib.hid hg1
  have HG2 := Lib.hid hg2
  have HR := Lib.hid hR
  have HN := Lib.hid (own_new hR)
  have HD := Lib.hid hD
  have HU := Lib.hid (rwUInt8 _ base rb bb D R d (hR.new K0))
  have HSZ := Lib.hid (size3 w (.cells #[.int .i64 7, .int .u64 u, .int .u64 v, .slice S n c] 28) (.cells #[.int .u64 0, .int .u64 0, .slice none 0 0, .bool false] 34) (.cells #[.int .u64 0, .int .u64 0, .slice none 0 0, .bool false] 34))
  clear hR K0 hp0 hg1 hg2 hD
  go_enter Tryd.func25, Tryd.ntmps25
  go_wp2_with fail
  refine HU.out.mono ?_
  rintro e w4 (⟨y, l, ho, rfl, hgo⟩ | ⟨x, l, ho, rfl, ⟨a, rfl⟩, hgo⟩)
  · obtain ⟨x, hy, hx, hM⟩ := fix_some ho
    simp only [Nat.reducePow] at hx
    rw [show fUInt8 x = .int .u8 (x : Int) from rfl] at hy
    have c2 : IntKind.u64.wrap (x : Int) = (x : Int) := by rw [IntKind.wrap_u64]; omega
    subst hy
    have HM := Lib.hid hM
    clear ho hM hx
    have h1 := HG1.out.keeps hgo.keeps (HN.out _ (.inl rfl))
    have h2 := HG2.out.keeps hgo.keeps (HN.out _ (.inr (.inl rfl)))
    have hne : w.heap.size + 1 ≠ w.heap.size + 2 := by omega
    have a0 : w4.cell? ⟨w.heap.size + 2, 0, none⟩ = some (.int .u64 0) := h2.cell 0
    have a1 : w4.cell? ⟨w.heap.size + 2, 1, none⟩ = some (.int .u64 0) := h2.cell 1
    have a2 : w4.cell? ⟨w.heap.size + 2, 2, none⟩ = some (.slice none 0 0) := h2.cell 2
    have a3 : w4.cell? ⟨w.heap.size + 2, 3, none⟩ = some (.bool false) := h2.cell 3
    have b0 : w4.cell? ⟨w.heap.size + 1, 0, none⟩ = some (.int .u64 0) := h1.cell 0
    have b1 : w4.cell? ⟨w.heap.size + 1, 1, none⟩ = some (.int .u64 0) := h1.cell 1
    have b2 : w4.cell? ⟨w.heap.size + 1, 2, none⟩ = some (.slice none 0 0) := h1.cell 2
    have b3 : w4.cell? ⟨w.heap.size + 1, 3, none⟩ = some (.bool false) := h1.cell 3
    have z20 : w4.frozen? ⟨w.heap.size + 2, 0, none⟩ = false := h2.frozen 0
    have z21 : w4.frozen? ⟨w.heap.size + 2, 1, none⟩ = false := h2.frozen 1
    have z22 : w4.frozen? ⟨w.heap.size + 2, 2, none⟩ = false := h2.frozen 2
    have z10 : w4.frozen? ⟨w.heap.size + 1, 0, none⟩ = false := h1.frozen 0
    have z11 : w4.frozen? ⟨w.heap.size + 1, 1, none⟩ = false := h1.frozen 1
    have z12 : w4.frozen? ⟨w.heap.size + 1, 2, none⟩ = false := h1.frozen 2
    have z13 : w4.frozen? ⟨w.heap.size + 1, 3, none⟩ = false := h1.frozen 3
    have hl1 := h1.lt
    have hl2 := h2.lt
    go_wp2_with fail
    have r1 := (((((h1.far (p := ⟨w.heap.size + 2, 0, none⟩) (by show w.heap.size + 1 ≠ w.heap.size + 2; omega) (.int .u64 (x : Int))).put 0 (.int .u64 (x : Int))).put 1 (.int .u64 0)).put 2 (.slice none 0 0)).put 3 (.bool false))
    have hld := run_loadVar_row (P := Tryd.prog) _ (w.heap.size + 1) 34 34 _ (0, 0) _ r1 Tryd.underlying34 rfl infoGot
    have k5 := ((((((Keeps.refl (fun i => w.heap.size ≤ i ∧ i < (((w.alloc (.cells #[.int .i64 7, .int .u64 u, .int .u64 v, .slice S n c] 28)).alloc (.cells #[.int .u64 0, .int .u64 0, .slice none 0 0, .bool false] 34)).alloc (.cells #[.int .u64 0, .int .u64 0, .slice none 0 0, .bool false] 34)).heap.size) w4).setCell (p := ⟨w.heap.size + 2, 0, none⟩) (.inl ⟨by show w.heap.size ≤ w.heap.size + 2; omega, by rw [HSZ.out]; show w.heap.size + 2 < _; omega⟩) (.int .u64 (x : Int))).setCell (p := ⟨w.heap.size + 1, 0, none⟩) (.inl ⟨by show w.heap.size ≤ w.heap.size + 1; omega, by rw [HSZ.out]; show w.heap.size + 1 < _; omega⟩) (.int .u64 (x : Int))).setCell (p := ⟨w.heap.size + 1, 1, none⟩) (.inl ⟨by show w.heap.size ≤ w.heap.size + 1; omega, by rw [HSZ.out]; show w.heap.size + 1 < _; omega⟩) (.int .u64 0)).setCell (p := ⟨w.heap.size + 1, 2, none⟩) (.inl ⟨by show w.heap.size ≤ w.heap.size + 1; omega, by rw [HSZ.out]; show w.heap.size + 1 < _; omega⟩) (.slice none 0 0)).setCell (p := ⟨w.heap.size + 1, 3, none⟩) (.inl ⟨by show w.heap.size ≤ w.heap.size + 1; omega, by rw [HSZ.out]; show w.heap.size + 1 < _; omega⟩) (.bool false))
    have hfin := go_put HR.out HK0.out hgo k5 HD.out
    exact bodyPost_ret (results_cell1 rfl _ ⟨w.heap.size + 1, 0, none⟩ _ _ rfl hld) rfl (by rw [HM.out]; exact get_done hfin)
  · have HM := Lib.hid (fix_none ho)
    clear ho
    have h1 := HG1.out.keeps hgo.keeps (HN.out _ (.inl rfl))
    have h2 := HG2.out.keeps hgo.keeps (HN.out _ (.inr (.inl rfl)))
    have hne : w.heap.size + 1 ≠ w.heap.size + 2 := by omega
    have a0 : w4.cell? ⟨w.heap.size + 2, 0, none⟩ = some (.int .u64 0) := h2.cell 0
    have a1 : w4.cell? ⟨w.heap.size + 2, 1, none⟩ = some (.int .u64 0) := h2.cell 1
    have a2 : w4.cell? ⟨w.heap.size + 2, 2, none⟩ = some (.slice none 0 0) := h2.cell 2
    have a3 : w4.cell? ⟨w.heap.size + 2, 3, none⟩ = some (.bool false) := h2.cell 3
    have b0 : w4.cell? ⟨w.heap.size + 1, 0, none⟩ = some (.int .u64 0) := h1.cell 0
    have b1 : w4.cell? ⟨w.heap.size + 1, 1, none⟩ = some (.int .u64 0) := h1.cell 1
    have b2 : w4.cell? ⟨w.heap.size + 1, 2, none⟩ = some (.slice none 0 0) := h1.cell 2
    have b3 : w4.cell? ⟨w.heap.size + 1, 3, none⟩ = some (.bool false) := h1.cell 3
    have z20 : w4.frozen? ⟨w.heap.size + 2, 0, none⟩ = false := h2.frozen 0
    have z21 : w4.frozen? ⟨w.heap.size + 2, 1, none⟩ = false := h2.frozen 1
    have z22 : w4.frozen? ⟨w.heap.size + 2, 2, none⟩ = false := h2.frozen 2
    have z10 : w4.frozen? ⟨w.heap.size + 1, 0, none⟩ = false := h1.frozen 0
    have z11 : w4.frozen? ⟨w.heap.size + 1, 1, none⟩ = false := h1.frozen 1
    have z12 : w4.frozen? ⟨w.heap.size + 1, 2, none⟩ = false := h1.frozen 2
    have z13 : w4.frozen? ⟨w.heap.size + 1, 3, none⟩ = false := h1.frozen 3
    have hl1 := h1.lt
    have hl2 := h2.lt
    go_wp2_with fail
    have r1 := (((((h1.far (p := ⟨w.heap.size + 2, 0, none⟩) (by show w.heap.size + 1 ≠ w.heap.size + 2; omega) (.int .u64 0)).put 0 (.int .u64 0)).put 1 (.int .u64 0)).put 2 (.slice none 0 0)).put 3 (.bool true))
    have hld := run_loadVar_row (P := Tryd.prog) _ (w.heap.size + 1) 34 34 _ (0, 0) _ r1 Tryd.underlying34 rfl infoGot
    have k5 := ((((((Keeps.refl (fun i => w.heap.size ≤ i ∧ i < (((w.alloc (.cells #[.int .i64 7, .int .u64 u, .int .u64 v, .slice S n c] 28)).alloc (.cells #[.int .u64 0, .int .u64 0, .slice none 0 0, .bool false] 34)).alloc (.cells #[.int .u64 0, .int .u64 0, .slice none 0 0, .bool false] 34)).heap.size) w4).setCell (p := ⟨w.heap.size + 2, 0, none⟩) (.inl ⟨by show w.heap.size ≤ w.heap.size + 2; omega, by rw [HSZ.out]; show w.heap.size + 2 < _; omega⟩) (.int .u64 0)).setCell (p := ⟨w.heap.size + 1, 0, none⟩) (.inl ⟨by show w.heap.size ≤ w.heap.size + 1; omega, by rw [HSZ.out]; show w.heap.size + 1 < _; omega⟩) (.int .u64 0)).setCell (p := ⟨w.heap.size + 1, 1, none⟩) (.inl ⟨by show w.heap.size ≤ w.heap.size + 1; omega, by rw [HSZ.out]; show w.heap.size + 1 < _; omega⟩) (.int .u64 0)).setCell (p := ⟨w.heap.size + 1, 2, none⟩) (.inl ⟨by show w.heap.size ≤ w.heap.size + 1; omega, by rw [HSZ.out]; show w.heap.size + 1 < _; omega⟩) (.slice none 0 0)).setCell (p := ⟨w.heap.size + 1, 3, none⟩) (.inl ⟨by show w.heap.size ≤ w.heap.size + 1; omega, by rw [HSZ.out]; show w.heap.size + 1 < _; omega⟩) (.bool true))
    have hfin := go_put HR.out HK0.out hgo k5 HD.out
    exact bodyPost_ret (results_cell1 rfl _ ⟨w.heap.size + 1, 0, none⟩ _ _ rfl hld) rfl (.inr ⟨l, HM.out, rfl, hfin⟩)
set_option maxRecDepth 100000 in
set_option maxHeartbeats 4000000 in
theorem get8 (w : World) (base rb bb : Nat) (D R : Option Nat) (d : List UInt8) (hR : RdrOn w base rb bb D R d) (hD : ∀ i, D = some i → i < w.heap.size) (u v : Int) (S : Option Addr) (n c : Nat) : Calls Tryd.prog 25 #[.agg #[.int .i64 8, .int .u64 u, .int .u64 v, .slice S n c], .pointer (some ⟨rb, 0, none⟩)] w (GetOk w base rb bb D R (numM 2 d)) := by
  obtain ⟨K0, hp0, hg1, hg2⟩ := start3 w 28 34 #[.int .i64 8, .int .u64 u, .int .u64 v, .slice S n c] #[.int .u64 0, .int .u64 0, .slice none 0 0, .bool false] #[.int .u64 0, .int .u64 0, .slice none 0 0, .bool false]
  have HK0 := Lib.hid K0
  have HP0 := Lib.hid hp0
  have HG1 := Lib.hid hg1
  have HG2 := Lib.hid hg2
  have HR := Lib.hid hR
  have HN := Lib.hid (own_new hR)
  have HD := Lib.hid hD
  have HU := Lib.hid (rwUInt16 _ base rb bb D R d (hR.new K0))
  have HSZ := Lib.hid (size3 w (.cells #[.int .i64 8, .int .u64 u, .int .u64 v, .slice S n c] 28) (.cells #[.int .u64 0, .int .u64 0, .slice none 0 0, .bool false] 34) (.cells #[.int .u64 0, .int .u64 0, .slice none 0 0, .bool false] 34))
  clear hR K0 hp0 hg1 hg2 hD
  go_enter Tryd.func25, Tryd.ntmps25
  go_wp2_with fail
  refine HU.out.mono ?_
  rintro e w4 (⟨y, l, ho, rfl, hgo⟩ | ⟨x, l, ho, rfl, ⟨a, rfl⟩, hgo⟩)
  · obtain ⟨x, hy, hx, hM⟩ := fix_some ho
    simp only [Nat.reducePow] at hx
    rw [show fUInt16 x = .int .u16 (x : Int) from rfl] at hy
    have c2 : IntKind.u64.wrap (x : Int) = (x : Int) := by rw [IntKind.wrap_u64]; omega
    subst hy
    have HM := Lib.hid hM
    clear ho hM hx
    have h1 := HG1.out.keeps hgo.keeps (HN.out _ (.inl rfl))
    have h2 := HG2.out.keeps hgo.keeps (HN.out _ (.inr (.inl rfl)))
    have hne : w.heap.size + 1 ≠ w.heap.size + 2 := by omega
    have a0 : w4.cell? ⟨w.heap.size + 2, 0, none⟩ = some (.int .u64 0) := h2.cell 0
    have a1 : w4.cell? ⟨w.heap.size + 2, 1, none⟩ = some (.int .u64 0) := h2.cell 1
    have a2 : w4.cell? ⟨w.heap.size + 2, 2, none⟩ = some (.slice none 0 0) := h2.cell 2
    have a3 : w4.cell? ⟨w.heap.size + 2, 3, none⟩ = some (.bool false) := h2.cell 3
    have b0 : w4.cell? ⟨w.heap.size + 1, 0, none⟩ = some (.int .u64 0) := h1.cell 0
    have b1 : w4.cell? ⟨w.heap.size + 1, 1, none⟩ = some (.int .u64 0) := h1.cell 1
    have b2 : w4.cell? ⟨w.heap.size + 1, 2, none⟩ = some (.slice none 0 0) := h1.cell 2
    have b3 : w4.cell? ⟨w.heap.size + 1, 3, none⟩ = some (.bool false) := h1.cell 3
    have z20 : w4.frozen? ⟨w.heap.size + 2, 0, none⟩ = false := h2.frozen 0
    have z21 : w4.frozen? ⟨w.heap.size + 2, 1, none⟩ = false := h2.frozen 1
    have z22 : w4.frozen? ⟨w.heap.size + 2, 2, none⟩ = false := h2.frozen 2
    have z10 : w4.frozen? ⟨w.heap.size + 1, 0, none⟩ = false := h1.frozen 0
    have z11 : w4.frozen? ⟨w.heap.size + 1, 1, none⟩ = false := h1.frozen 1
    have z12 : w4.frozen? ⟨w.heap.size + 1, 2, none⟩ = false := h1.frozen 2
    have z13 : w4.frozen? ⟨w.heap.size + 1, 3, none⟩ = false := h1.frozen 3
    have hl1 := h1.lt
    have hl2 := h2.lt
    go_wp2_with fail
    have r1 := (((((h1.far (p := ⟨w.heap.size + 2, 0, none⟩) (by show w.heap.size + 1 ≠ w.heap.size + 2; omega) (.int .u64 (x : Int))).put 0 (.int .u64 (x : Int))).put 1 (.int .u64 0)).put 2 (.slice none 0 0)).put 3 (.bool false))
    have hld := run_loadVar_row (P := Tryd.prog) _ (w.heap.size + 1) 34 34 _ (0, 0) _ r1 Tryd.underlying34 rfl infoGot
    have k5 := ((((((Keeps.refl (fun i => w.heap.size ≤ i ∧ i < (((w.alloc (.cells #[.int .i64 8, .int .u64 u, .int .u64 v, .slice S n c] 28)).alloc (.cells #[.int .u64 0, .int .u64 0, .slice none 0 0, .bool false] 34)).alloc (.cells #[.int .u64 0, .int .u64 0, .slice none 0 0, .bool false] 34)).heap.size) w4).setCell (p := ⟨w.heap.size + 2, 0, none⟩) (.inl ⟨by show w.heap.size ≤ w.heap.size + 2; omega, by rw [HSZ.out]; show w.heap.size + 2 < _; omega⟩) (.int .u64 (x : Int))).setCell (p := ⟨w.heap.size + 1, 0, none⟩) (.inl ⟨by show w.heap.size ≤ w.heap.size + 1; omega, by rw [HSZ.out]; show w.heap.size + 1 < _; omega⟩) (.int .u64 (x : Int))).setCell (p := ⟨w.heap.size + 1, 1, none⟩) (.inl ⟨by show w.heap.size ≤ w.heap.size + 1; omega, by rw [HSZ.out]; show w.heap.size + 1 < _; omega⟩) (.int .u64 0)).setCell (p := ⟨w.heap.size + 1, 2, none⟩) (.inl ⟨by show w.heap.size ≤ w.heap.size + 1; omega, by rw [HSZ.out]; show w.heap.size + 1 < _; omega⟩) (.slice none 0 0)).setCell (p := ⟨w.heap.size + 1, 3, none⟩) (.inl ⟨by show w.heap.size ≤ w.heap.size + 1; omega, by rw [HSZ.out]; show w.heap.size + 1 < _; omega⟩) (.bool false))
    have hfin := go_put HR.out HK0.out hgo k5 HD.out
    exact bodyPost_ret (results_cell1 rfl _ ⟨w.heap.size + 1, 0, none⟩ _ _ rfl hld) rfl (by rw [HM.out]; exact get_done hfin)
  · have HM := Lib.hid (fix_none ho)
    clear ho
    have h1 := HG1.out.keeps hgo.keeps (HN.out _ (.inl rfl))
    have h2 := HG2.out.keeps hgo.keeps (HN.out _ (.inr (.inl rfl)))
    have hne : w.heap.size + 1 ≠ w.heap.size + 2 := by omega
    have a0 : w4.cell? ⟨w.heap.size + 2, 0, none⟩ = some (.int .u64 0) := h2.cell 0
    have a1 : w4.cell? ⟨w.heap.size + 2, 1, none⟩ = some (.int .u64 0) := h2.cell 1
    have a2 : w4.cell? ⟨w.heap.size + 2, 2, none⟩ = some (.slice none 0 0) := h2.cell 2
    have a3 : w4.cell? ⟨w.heap.size + 2, 3, none⟩ = some (.bool false) := h2.cell 3
    have b0 : w4.cell? ⟨w.heap.size + 1, 0, none⟩ = some (.int .u64 0) := h1.cell 0
    have b1 : w4.cell? ⟨w.heap.size + 1, 1, none⟩ = some (.int .u64 0) := h1.cell 1
    have b2 : w4.cell? ⟨w.heap.size + 1, 2, none⟩ = some (.slice none 0 0) := h1.cell 2
    have b3 : w4.cell? ⟨w.heap.size + 1, 3, none⟩ = some (.bool false) := h1.cell 3
    have z20 : w4.frozen? ⟨w.heap.size + 2, 0, none⟩ = false := h2.frozen 0
    have z21 : w4.frozen? ⟨w.heap.size + 2, 1, none⟩ = false := h2.frozen 1
    have z22 : w4.frozen? ⟨w.heap.size + 2, 2, none⟩ = false := h2.frozen 2
    have z10 : w4.frozen? ⟨w.heap.size + 1, 0, none⟩ = false := h1.frozen 0
    have z11 : w4.frozen? ⟨w.heap.size + 1, 1, none⟩ = false := h1.frozen 1
    have z12 : w4.frozen? ⟨w.heap.size + 1, 2, none⟩ = false := h1.frozen 2
    have z13 : w4.frozen? ⟨w.heap.size + 1, 3, none⟩ = false := h1.frozen 3
    have hl1 := h1.lt
    have hl2 := h2.lt
    go_wp2_with fail
    have r1 := (((((h1.far (p := ⟨w.heap.size + 2, 0, none⟩) (by show w.heap.size + 1 ≠ w.heap.size + 2; omega) (.int .u64 0)).put 0 (.int .u64 0)).put 1 (.int .u64 0)).put 2 (.slice none 0 0)).put 3 (.bool true))
    have hld := run_loadVar_row (P := Tryd.prog) _ (w.heap.size + 1) 34 34 _ (0, 0) _ r1 Tryd.underlying34 rfl infoGot
    have k5 := ((((((Keeps.refl (fun i => w.heap.size ≤ i ∧ i < (((w.alloc (.cells #[.int .i64 8, .int .u64 u, .int .u64 v, .slice S n c] 28)).alloc (.cells #[.int .u64 0, .int .u64 0, .slice none 0 0, .bool false] 34)).alloc (.cells #[.int .u64 0, .int .u64 0, .slice none 0 0, .bool false] 34)).heap.size) w4).setCell (p := ⟨w.heap.size + 2, 0, none⟩) (.inl ⟨by show w.heap.size ≤ w.heap.size + 2; omega, by rw [HSZ.out]; show w.heap.size + 2 < _; omega⟩) (.int .u64 0)).setCell (p := ⟨w.heap.size + 1, 0, none⟩) (.inl ⟨by show w.heap.size ≤ w.heap.size + 1; omega, by rw [HSZ.out]; show w.heap.size + 1 < _; omega⟩) (.int .u64 0)).setCell (p := ⟨w.heap.size + 1, 1, none⟩) (.inl ⟨by show w.heap.size ≤ w.heap.size + 1; omega, by rw [HSZ.out]; show w.heap.size + 1 < _; omega⟩) (.int .u64 0)).setCell (p := ⟨w.heap.size + 1, 2, none⟩) (.inl ⟨by show w.heap.size ≤ w.heap.size + 1; omega, by rw [HSZ.out]; show w.heap.size + 1 < _; omega⟩) (.slice none 0 0)).setCell (p := ⟨w.heap.size + 1, 3, none⟩) (.inl ⟨by show w.heap.size ≤ w.heap.size + 1; omega, by rw [HSZ.out]; show w.heap.size + 1 < _; omega⟩) (.bool true))
    have hfin := go_put HR.out HK0.out hgo k5 HD.out
    exact bodyPost_ret (results_cell1 rfl _ ⟨w.heap.size + 1, 0, none⟩ _ _ rfl hld) rfl (.inr ⟨l, HM.out, rfl, hfin⟩)
set_option maxRecDepth 100000 in
set_option maxHeartbeats 4000000 in
theorem get9 (w : World) (base rb bb : Nat) (D R : Option Nat) (d : List UInt8) (hR : RdrOn w base rb bb D R d) (hD : ∀ i, D = some i → i < w.heap.size) (u v : Int) (S : Option Addr) (n c : Nat) : Calls Tryd.prog 25 #[.agg #[.int .i64 9, .int .u64 u, .int .u64 v, .slice S n c], .pointer (some ⟨rb, 0, none⟩)] w (GetOk w base rb bb D R (numM 4 d)) := by
  obtain ⟨K0, hp0, hg1, hg2⟩ := start3 w 28 34 #[.int .i64 9, .int .u64 u, .int .u64 v, .slice S n c] #[.int .u64 0, .int .u64 0, .slice none 0 0, .bool false] #[.int .u64 0, .int .u64 0, .slice none 0 0, .bool false]
  have HK0 := Lib.hid K0
  have HP0 := Lib.hid hp0
  have HG1 := Lib.hid hg1
  have HG2 := Lib.hid hg2
  have HR := Lib.hid hR
  have HN := Lib.hid (own_new hR)
  have HD := Lib.hid hD
  have HU := Lib.hid (rwUInt32 _ base rb bb D R d (hR.new K0))
  have HSZ := Lib.hid (size3 w (.cells #[.int .i64 9, .int .u64 u, .int .u64 v, .slice S n c] 28) (.cells #[.int .u64 0, .int .u64 0, .slice none 0 0, .bool false] 34) (.cells #[.int .u64 0, .int .u64 0, .slice none 0 0, .bool false] 34))
  clear hR K0 hp0 hg1 hg2 hD
  go_enter Tryd.func25, Tryd.ntmps25
  go_wp2_with fail
  refine HU.out.mono ?_
  rintro e w4 (⟨y, l, ho, rfl, hgo⟩ | ⟨x, l, ho, rfl, ⟨a, rfl⟩, hgo⟩)
  · obtain ⟨x, hy, hx, hM⟩ := fix_some ho
    simp only [Nat.reducePow] at hx
    rw [show fUInt32 x = .int .u32 (x : Int) from rfl] at hy
    have c2 : IntKind.u64.wrap (x : Int) = (x : Int) := by rw [IntKind.wrap_u64]; omega
    subst hy
    have HM := Lib.hid hM
    clear ho hM hx
    have h1 := HG1.out.keeps hgo.keeps (HN.out _ (.inl rfl))
    have h2 := HG2.out.keeps hgo.keeps (HN.out _ (.inr (.inl rfl)))
    have hne : w.heap.size + 1 ≠ w.heap.size + 2 := by omega
    have a0 : w4.cell? ⟨w.heap.size + 2, 0, none⟩ = some (.int .u64 0) := h2.cell 0
    have a1 : w4.cell? ⟨w.heap.size + 2, 1, none⟩ = some (.int .u64 0) := h2.cell 1
    have a2 : w4.cell? ⟨w.heap.size + 2, 2, none⟩ = some (.slice none 0 0) := h2.cell 2
    have a3 : w4.cell? ⟨w.heap.size + 2, 3, none⟩ = some (.bool false) := h2.cell 3
    have b0 : w4.cell? ⟨w.heap.size + 1, 0, none⟩ = some (.int .u64 0) := h1.cell 0
    have b1 : w4.cell? ⟨w.heap.size + 1, 1, none⟩ = some (.int .u64 0) := h1.cell 1
    have b2 : w4.cell? ⟨w.heap.size + 1, 2, none⟩ = some (.slice none 0 0) := h1.cell 2
    have b3 : w4.cell? ⟨w.heap.size + 1, 3, none⟩ = some (.bool false) := h1.cell 3
    have z20 : w4.frozen? ⟨w.heap.size + 2, 0, none⟩ = false := h2.frozen 0
    have z21 : w4.frozen? ⟨w.heap.size + 2, 1, none⟩ = false := h2.frozen 1
    have z22 : w4.frozen? ⟨w.heap.size + 2, 2, none⟩ = false := h2.frozen 2
    have z10 : w4.frozen? ⟨w.heap.size + 1, 0, none⟩ = false := h1.frozen 0
    have z11 : w4.frozen? ⟨w.heap.size + 1, 1, none⟩ = false := h1.frozen 1
    have z12 : w4.frozen? ⟨w.heap.size + 1, 2, none⟩ = false := h1.frozen 2
    have z13 : w4.frozen? ⟨w.heap.size + 1, 3, none⟩ = false := h1.frozen 3
    have hl1 := h1.lt
    have hl2 := h2.lt
    go_wp2_with fail
    have r1 := (((((h1.far (p := ⟨w.heap.size + 2, 0, none⟩) (by show w.heap.size + 1 ≠ w.heap.size + 2; omega) (.int .u64 (x : Int))).put 0 (.int .u64 (x : Int))).put 1 (.int .u64 0)).put 2 (.slice none 0 0)).put 3 (.bool false))
    have hld := run_loadVar_row (P := Tryd.prog) _ (w.heap.size + 1) 34 34 _ (0, 0) _ r1 Tryd.underlying34 rfl infoGot
    have k5 := ((((((Keeps.refl (fun i => w.heap.size ≤ i ∧ i < (((w.alloc (.cells #[.int .i64 9, .int .u64 u, .int .u64 v, .slice S n c] 28)).alloc (.cells #[.int .u64 0, .int .u64 0, .slice none 0 0, .bool false] 34)).alloc (.cells #[.int .u64 0, .int .u64 0, .slice none 0 0, .bool false] 34)).heap.size) w4).setCell (p := ⟨w.heap.size + 2, 0, none⟩) (.inl ⟨by show w.heap.size ≤ w.heap.size + 2; omega, by rw [HSZ.out]; show w.heap.size + 2 < _; omega⟩) (.int .u64 (x : Int))).setCell (p := ⟨w.heap.size + 1, 0, none⟩) (.inl ⟨by show w.heap.size ≤ w.heap.size + 1; omega, by rw [HSZ.out]; show w.heap.size + 1 < _; omega⟩) (.int .u64 (x : Int))).setCell (p := ⟨w.heap.size + 1, 1, none⟩) (.inl ⟨by show w.heap.size ≤ w.heap.size + 1; omega, by rw [HSZ.out]; show w.heap.size + 1 < _; omega⟩) (.int .u64 0)).setCell (p := ⟨w.heap.size + 1, 2, none⟩) (.inl ⟨by show w.heap.size ≤ w.heap.size + 1; omega, by rw [HSZ.out]; show w.heap.size + 1 < _; omega⟩) (.slice none 0 0)).setCell (p := ⟨w.heap.size + 1, 3, none⟩) (.inl ⟨by show w.heap.size ≤ w.heap.size + 1; omega, by rw [HSZ.out]; show w.heap.size + 1 < _; omega⟩) (.bool false))
    have hfin := go_put HR.out HK0.out hgo k5 HD.out
    exact bodyPost_ret (results_cell1 rfl _ ⟨w.heap.size + 1, 0, none⟩ _ _ rfl hld) rfl (by rw [HM.out]; exact get_done hfin)
  · have HM := Lib.hid (fix_none ho)
    clear ho
    have h1 := HG1.out.keeps hgo.keeps (HN.out _ (.inl rfl))
    have h2 := HG2.out.keeps hgo.keeps (HN.out _ (.inr (.inl rfl)))
    have hne : w.heap.size + 1 ≠ w.heap.size + 2 := by omega
    have a0 : w4.cell? ⟨w.heap.size + 2, 0, none⟩ = some (.int .u64 0) := h2.cell 0
    have a1 : w4.cell? ⟨w.heap.size + 2, 1, none⟩ = some (.int .u64 0) := h2.cell 1
    have a2 : w4.cell? ⟨w.heap.size + 2, 2, none⟩ = some (.slice none 0 0) := h2.cell 2
    have a3 : w4.cell? ⟨w.heap.size + 2, 3, none⟩ = some (.bool false) := h2.cell 3
    have b0 : w4.cell? ⟨w.heap.size + 1, 0, none⟩ = some (.int .u64 0) := h1.cell 0
    have b1 : w4.cell? ⟨w.heap.size + 1, 1, none⟩ = some (.int .u64 0) := h1.cell 1
    have b2 : w4.cell? ⟨w.heap.size + 1, 2, none⟩ = some (.slice none 0 0) := h1.cell 2
    have b3 : w4.cell? ⟨w.heap.size + 1, 3, none⟩ = some (.bool false) := h1.cell 3
    have z20 : w4.frozen? ⟨w.heap.size + 2, 0, none⟩ = false := h2.frozen 0
    have z21 : w4.frozen? ⟨w.heap.size + 2, 1, none⟩ = false := h2.frozen 1
    have z22 : w4.frozen? ⟨w.heap.size + 2, 2, none⟩ = false := h2.frozen 2
    have z10 : w4.frozen? ⟨w.heap.size + 1, 0, none⟩ = false := h1.frozen 0
    have z11 : w4.frozen? ⟨w.heap.size + 1, 1, none⟩ = false := h1.frozen 1
    have z12 : w4.frozen? ⟨w.heap.size + 1, 2, none⟩ = false := h1.frozen 2
    have z13 : w4.frozen? ⟨w.heap.size + 1, 3, none⟩ = false := h1.frozen 3
    have hl1 := h1.lt
    have hl2 := h2.lt
    go_wp2_with fail
    have r1 := (((((h1.far (p := ⟨w.heap.size + 2, 0, none⟩) (by show w.heap.size + 1 ≠ w.heap.size + 2; omega) (.int .u64 0)).put 0 (.int .u64 0)).put 1 (.int .u64 0)).put 2 (.slice none 0 0)).put 3 (.bool true))
    have hld := run_loadVar_row (P := Tryd.prog) _ (w.heap.size + 1) 34 34 _ (0, 0) _ r1 Tryd.underlying34 rfl infoGot
    have k5 := ((((((Keeps.refl (fun i => w.heap.size ≤ i ∧ i < (((w.alloc (.cells #[.int .i64 9, .int .u64 u, .int .u64 v, .slice S n c] 28)).alloc (.cells #[.int .u64 0, .int .u64 0, .slice none 0 0, .bool false] 34)).alloc (.cells #[.int .u64 0, .int .u64 0, .slice none 0 0, .bool false] 34)).heap.size) w4).setCell (p := ⟨w.heap.size + 2, 0, none⟩) (.inl ⟨by show w.heap.size ≤ w.heap.size + 2; omega, by rw [HSZ.out]; show w.heap.size + 2 < _; omega⟩) (.int .u64 0)).setCell (p := ⟨w.heap.size + 1, 0, none⟩) (.inl ⟨by show w.heap.size ≤ w.heap.size + 1; omega, by rw [HSZ.out]; show w.heap.size + 1 < _; omega⟩) (.int .u64 0)).setCell (p := ⟨w.heap.size + 1, 1, none⟩) (.inl ⟨by show w.heap.size ≤ w.heap.size + 1; omega, by rw [HSZ.out]; show w.heap.size + 1 < _; omega⟩) (.int .u64 0)).setCell (p := ⟨w.heap.size + 1, 2, none⟩) (.inl ⟨by show w.heap.size ≤ w.heap.size + 1; omega, by rw [HSZ.out]; show w.heap.size + 1 < _; omega⟩) (.slice none 0 0)).setCell (p := ⟨w.heap.size + 1, 3, none⟩) (.inl ⟨by show w.heap.size ≤ w.heap.size + 1; omega, by rw [HSZ.out]; show w.heap.size + 1 < _; omega⟩) (.bool true))
    have hfin := go_put HR.out HK0.out hgo k5 HD.out
    exact bodyPost_ret (results_cell1 rfl _ ⟨w.heap.size + 1, 0, none⟩ _ _ rfl hld) rfl (.inr ⟨l, HM.out, rfl, hfin⟩)
set_option maxRecDepth 100000 in
set_option maxHeartbeats 4000000 in
theorem get10 (w : World) (base rb bb : Nat) (D R : Option Nat) (d : List UInt8) (hR : RdrOn w base rb bb D R d) (hD : ∀ i, D = some i → i < w.heap.size) (u v : Int) (S : Option Addr) (n c : Nat) : Calls Tryd.prog 25 #[.agg #[.int .i64 10, .int .u64 u, .int .u64 v, .slice S n c], .pointer (some ⟨rb, 0, none⟩)] w (GetOk w base rb bb D R (numM 8 d)) := by
  obtain ⟨K0, hp0, hg1, hg2⟩ := start3 w 28 34 #[.int .i64 10, .int .u64 u, .int .u64 v, .slice S n c] #[.int .u64 0, .int .u64 0, .slice none 0 0, .bool false] #[.int .u64 0, .int .u64 0, .slice none 0 0, .bool false]
  have HK0 := Lib.hid K0
  have HP0 := Lib.hid hp0
  have HG1 := Lib.hid hg1
  have HG2 := Lib.hid hg2
  have HR := Lib.hid hR
  have HN := Lib.hid (own_new hR)
  have HD := Lib.hid hD
  have HU := Lib.hid (rwUInt64 _ base rb bb D R d (hR.new K0))
  have HSZ := Lib.hid (size3 w (.cells #[.int .i64 10, .int .u64 u, .int .u64 v, .slice S n c] 28) (.cells #[.int .u64 0, .int .u64 0, .slice none 0 0, .bool false] 34) (.cells #[.int .u64 0, .int .u64 0, .slice none 0 0, .bool false] 34))
  clear hR K0 hp0 hg1 hg2 hD
  go_enter Tryd.func25, Tryd.ntmps25
  go_wp2_with fail
  refine HU.out.mono ?_
  rintro e w4 (⟨y, l, ho, rfl, hgo⟩ | ⟨x, l, ho, rfl, ⟨a, rfl⟩, hgo⟩)
  · obtain ⟨x, hy, hx, hM⟩ := fix_some ho
    simp only [Nat.reducePow] at hx
    rw [show fUInt64 x = .int .u64 (x : Int) from rfl] at hy
    have c2 : IntKind.u64.wrap (x : Int) = (x : Int) := by rw [IntKind.wrap_u64]; omega
    subst hy
    have HM := Lib.hid hM
    clear ho hM hx
    have h1 := HG1.out.keeps hgo.keeps (HN.out _ (.inl rfl))
    have h2 := HG2.out.keeps hgo.keeps (HN.out _ (.inr (.inl rfl)))
    have hne : w.heap.size + 1 ≠ w.heap.size + 2 := by omega
    have a0 : w4.cell? ⟨w.heap.size + 2, 0, none⟩ = some (.int .u64 0) := h2.cell 0
    have a1 : w4.cell? ⟨w.heap.size + 2, 1, none⟩ = some (.int .u64 0) := h2.cell 1
    have a2 : w4.cell? ⟨w.heap.size + 2, 2, none⟩ = some (.slice none 0 0) := h2.cell 2
    have a3 : w4.cell? ⟨w.heap.size + 2, 3, none⟩ = some (.bool false) := h2.cell 3
    have b0 : w4.cell? ⟨w.heap.size + 1, 0, none⟩ = some (.int .u64 0) := h1.cell 0
    have b1 : w4.cell? ⟨w.heap.size + 1, 1, none⟩ = some (.int .u64 0) := h1.cell 1
    have b2 : w4.cell? ⟨w.heap.size + 1, 2, none⟩ = some (.slice none 0 0) := h1.cell 2
    have b3 : w4.cell? ⟨w.heap.size + 1, 3, none⟩ = some (.bool false) := h1.cell 3
    have z20 : w4.frozen? ⟨w.heap.size + 2, 0, none⟩ = false := h2.frozen 0
    have z21 : w4.frozen? ⟨w.heap.size + 2, 1, none⟩ = false := h2.frozen 1
    have z22 : w4.frozen? ⟨w.heap.size + 2, 2, none⟩ = false := h2.frozen 2
    have z10 : w4.frozen? ⟨w.heap.size + 1, 0, none⟩ = false := h1.frozen 0
    have z11 : w4.frozen? ⟨w.heap.size + 1, 1, none⟩ = false := h1.frozen 1
    have z12 : w4.frozen? ⟨w.heap.size + 1, 2, none⟩ = false := h1.frozen 2
    have z13 : w4.frozen? ⟨w.heap.size + 1, 3, none⟩ = false := h1.frozen 3
    have hl1 := h1.lt
    have hl2 := h2.lt
    go_wp2_with fail
    have r1 := (((((h1.far (p := ⟨w.heap.size + 2, 0, none⟩) (by show w.heap.size + 1 ≠ w.heap.size + 2; omega) (.int .u64 (x : Int))).put 0 (.int .u64 (x : Int))).put 1 (.int .u64 0)).put 2 (.slice none 0 0)).put 3 (.bool false))
    have hld := run_loadVar_row (P := Tryd.prog) _ (w.heap.size + 1) 34 34 _ (0, 0) _ r1 Tryd.underlying34 rfl infoGot
    have k5 := ((((((Keeps.refl (fun i => w.heap.size ≤ i ∧ i < (((w.alloc (.cells #[.int .i64 10, .int .u64 u, .int .u64 v, .slice S n c] 28)).alloc (.cells #[.int .u64 0, .int .u64 0, .slice none 0 0, .bool false] 34)).alloc (.cells #[.int .u64 0, .int .u64 0, .slice none 0 0, .bool false] 34)).heap.size) w4).setCell (p := ⟨w.heap.size + 2, 0, none⟩) (.inl ⟨by show w.heap.size ≤ w.heap.size + 2; omega, by rw [HSZ.out]; show w.heap.size + 2 < _; omega⟩) (.int .u64 (x : Int))).setCell (p := ⟨w.heap.size + 1, 0, none⟩) (.inl ⟨by show w.heap.size ≤ w.heap.size + 1; omega, by rw [HSZ.out]; show w.heap.size + 1 < _; omega⟩) (.int .u64 (x : Int))).setCell (p := ⟨w.heap.size + 1, 1, none⟩) (.inl ⟨by show w.heap.size ≤ w.heap.size + 1; omega, by rw [HSZ.out]; show w.heap.size + 1 < _; omega⟩) (.int .u64 0)).setCell (p := ⟨w.heap.size + 1, 2, none⟩) (.inl ⟨by show w.heap.size ≤ w.heap.size + 1; omega, by rw [HSZ.out]; show w.heap.size + 1 < _; omega⟩) (.slice none 0 0)).setCell (p := ⟨w.heap.size + 1, 3, none⟩) (.inl ⟨by show w.heap.size ≤ w.heap.size + 1; omega, by rw [HSZ.out]; show w.heap.size + 1 < _; omega⟩) (.bool false))
    have hfin := go_put HR.out HK0.out hgo k5 HD.out
    exact bodyPost_ret (results_cell1 rfl _ ⟨w.heap.size + 1, 0, none⟩ _ _ rfl hld) rfl (by rw [HM.out]; exact get_done hfin)
  · have HM := Lib.hid (fix_none ho)
    clear ho
    have h1 := HG1.out.keeps hgo.keeps (HN.out _ (.inl rfl))
    have h2 := HG2.out.keeps hgo.keeps (HN.out _ (.inr (.inl rfl)))
    have hne : w.heap.size + 1 ≠ w.heap.size + 2 := by omega
    have a0 : w4.cell? ⟨w.heap.size + 2, 0, none⟩ = some (.int .u64 0) := h2.cell 0
    have a1 : w4.cell? ⟨w.heap.size + 2, 1, none⟩ = some (.int .u64 0) := h2.cell 1
    have a2 : w4.cell? ⟨w.heap.size + 2, 2, none⟩ = some (.slice none 0 0) := h2.cell 2
    have a3 : w4.cell? ⟨w.heap.size + 2, 3, none⟩ = some (.bool false) := h2.cell 3
    have b0 : w4.cell? ⟨w.heap.size + 1, 0, none⟩ = some (.int .u64 0) := h1.cell 0
    have b1 : w4.cell? ⟨w.heap.size + 1, 1, none⟩ = some (.int .u64 0) := h1.cell 1
    have b2 : w4.cell? ⟨w.heap.size + 1, 2, none⟩ = some (.slice none 0 0) := h1.cell 2
    have b3 : w4.cell? ⟨w.heap.size + 1, 3, none⟩ = some (.bool false) := h1.cell 3
    have z20 : w4.frozen? ⟨w.heap.size + 2, 0, none⟩ = false := h2.frozen 0
    have z21 : w4.frozen? ⟨w.heap.size + 2, 1, none⟩ = false := h2.frozen 1
    have z22 : w4.frozen? ⟨w.heap.size + 2, 2, none⟩ = false := h2.frozen 2
    have z10 : w4.frozen? ⟨w.heap.size + 1, 0, none⟩ = false := h1.frozen 0
    have z11 : w4.frozen? ⟨w.heap.size + 1, 1, none⟩ = false := h1.frozen 1
    have z12 : w4.frozen? ⟨w.heap.size + 1, 2, none⟩ = false := h1.frozen 2
    have z13 : w4.frozen? ⟨w.heap.size + 1, 3, none⟩ = false := h1.frozen 3
    have hl1 := h1.lt
    have hl2 := h2.lt
    go_wp2_with fail
    have r1 := (((((h1.far (p := ⟨w.heap.size + 2, 0, none⟩) (by show w.heap.size + 1 ≠ w.heap.size + 2; omega) (.int .u64 0)).put 0 (.int .u64 0)).put 1 (.int .u64 0)).put 2 (.slice none 0 0)).put 3 (.bool true))
    have hld := run_loadVar_row (P := Tryd.prog) _ (w.heap.size + 1) 34 34 _ (0, 0) _ r1 Tryd.underlying34 rfl infoGot
    have k5 := ((((((Keeps.refl (fun i => w.heap.size ≤ i ∧ i < (((w.alloc (.cells #[.int .i64 10, .int .u64 u, .int .u64 v, .slice S n c] 28)).alloc (.cells #[.int .u64 0, .int .u64 0, .slice none 0 0, .bool false] 34)).alloc (.cells #[.int .u64 0, .int .u64 0, .slice none 0 0, .bool false] 34)).heap.size) w4).setCell (p := ⟨w.heap.size + 2, 0, none⟩) (.inl ⟨by show w.heap.size ≤ w.heap.size + 2; omega, by rw [HSZ.out]; show w.heap.size + 2 < _; omega⟩) (.int .u64 0)).setCell (p := ⟨w.heap.size + 1, 0, none⟩) (.inl ⟨by show w.heap.size ≤ w.heap.size + 1; omega, by rw [HSZ.out]; show w.heap.size + 1 < _; omega⟩) (.int .u64 0)).setCell (p := ⟨w.heap.size + 1, 1, none⟩) (.inl ⟨by show w.heap.size ≤ w.heap.size + 1; omega, by rw [HSZ.out]; show w.heap.size + 1 < _; omega⟩) (.int .u64 0)).setCell (p := ⟨w.heap.size + 1, 2, none⟩) (.inl ⟨by show w.heap.size ≤ w.heap.size + 1; omega, by rw [HSZ.out]; show w.heap.size + 1 < _; omega⟩) (.slice none 0 0)).setCell (p := ⟨w.heap.size + 1, 3, none⟩) (.inl ⟨by show w.heap.size ≤ w.heap.size + 1; omega, by rw [HSZ.out]; show w.heap.size + 1 < _; omega⟩) (.bool true))
    have hfin := go_put HR.out HK0.out hgo k5 HD.out
    exact bodyPost_ret (results_cell1 rfl _ ⟨w.heap.size + 1, 0, none⟩ _ _ rfl hld) rfl (.inr ⟨l, HM.out, rfl, hfin⟩)
set_option maxRecDepth 100000 in
set_option maxHeartbeats 4000000 in
theorem get2 (w : World) (base rb bb : Nat) (D R : Option Nat) (d : List UInt8) (hR : RdrOn w base rb bb D R d) (hD : ∀ i, D = some i → i < w.heap.size) (u v : Int) (S : Option Addr) (n c : Nat) : Calls Tryd.prog 25 #[.agg #[.int .i64 2, .int .u64 u, .int .u64 v, .slice S n c], .pointer (some ⟨rb, 0, none⟩)] w (GetOk w base rb bb D R (boolM d)) := by
  obtain ⟨K0, hp0, hg1, hg2⟩ := start3 w 28 34 #[.int .i64 2, .int .u64 u, .int .u64 v, .slice S n c] #[.int .u64 0, .int .u64 0, .slice none 0 0, .bool false] #[.int .u64 0, .int .u64 0, .slice none 0 0, .bool false]
  have HK0 := Lib.hid K0
  have HP0 := Lib.hid hp0
  have HG1 := Lib.hid hg1
  have HG2 := Lib.hid hg2
  have HR := Lib.hid hR
  have HN := Lib.hid (own_new hR)
  have HD := Lib.hid hD
  have HU := Lib.hid (rwBool _ base rb bb D R d (hR.new K0))
  have HSZ := Lib.hid (size3 w (.cells #[.int .i64 2, .int .u64 u, .int .u64 v, .slice S n c] 28) (.cells #[.int .u64 0, .int .u64 0, .slice none 0 0, .bool false] 34) (.cells #[.int .u64 0, .int .u64 0, .slice none 0 0, .bool false] 34))
  clear hR K0 hp0 hg1 hg2 hD
  go_enter Tryd.func25, Tryd.ntmps25
  go_wp2_with fail
  refine HU.out.mono ?_
  rintro e w4 (⟨y, l, ho, rfl, hgo⟩ | ⟨x, l, ho, rfl, ⟨a, rfl⟩, hgo⟩)
  · obtain ⟨b, hy, hb, hM⟩ : ∃ b : Nat, y = .bool (decide (b = 1)) ∧ b ≤ 1 ∧ boolM d = some (b, 0, [], l) := by
      rcases d with _ | ⟨b, d⟩
      · cases ho
      · unfold fixB at ho
        simp only at ho
        split at ho
        · rename_i hb
          injection ho with ho
          injection ho with h1 h2
          exact ⟨b.toNat, h1.symm, hb, by rw [boolM, if_pos hb, h2]⟩
        · cases ho
    subst hy
    have HM := Lib.hid hM
    clear ho hM
    have h1 := HG1.out.keeps hgo.keeps (HN.out _ (.inl rfl))
    have h2 := HG2.out.keeps hgo.keeps (HN.out _ (.inr (.inl rfl)))
    have hne : w.heap.size + 1 ≠ w.heap.size + 2 := by omega
    have a0 : w4.cell? ⟨w.heap.size + 2, 0, none⟩ = some (.int .u64 0) := h2.cell 0
    have a1 : w4.cell? ⟨w.heap.size + 2, 1, none⟩ = some (.int .u64 0) := h2.cell 1
    have a2 : w4.cell? ⟨w.heap.size + 2, 2, none⟩ = some (.slice none 0 0) := h2.cell 2
    have a3 : w4.cell? ⟨w.heap.size + 2, 3, none⟩ = some (.bool false) := h2.cell 3
    have b0 : w4.cell? ⟨w.heap.size + 1, 0, none⟩ = some (.int .u64 0) := h1.cell 0
    have b1 : w4.cell? ⟨w.heap.size + 1, 1, none⟩ = some (.int .u64 0) := h1.cell 1
    have b2 : w4.cell? ⟨w.heap.size + 1, 2, none⟩ = some (.slice none 0 0) := h1.cell 2
    have b3 : w4.cell? ⟨w.heap.size + 1, 3, none⟩ = some (.bool false) := h1.cell 3
    have z20 : w4.frozen? ⟨w.heap.size + 2, 0, none⟩ = false := h2.frozen 0
    have z21 : w4.frozen? ⟨w.heap.size + 2, 1, none⟩ = false := h2.frozen 1
    have z22 : w4.frozen? ⟨w.heap.size + 2, 2, none⟩ = false := h2.frozen 2
    have z10 : w4.frozen? ⟨w.heap.size + 1, 0, none⟩ = false := h1.frozen 0
    have z11 : w4.frozen? ⟨w.heap.size + 1, 1, none⟩ = false := h1.frozen 1
    have z12 : w4.frozen? ⟨w.heap.size + 1, 2, none⟩ = false := h1.frozen 2
    have z13 : w4.frozen? ⟨w.heap.size + 1, 3, none⟩ = false := h1.frozen 3
    have hl1 := h1.lt
    have hl2 := h2.lt
    have hb2 : b = 0 ∨ b = 1 := by omega
    rcases hb2 with rfl | rfl
    · rw [show (decide (0 = 1)) = false from rfl]
      go_wp2_with fail
      have r1 := ((((h1.put 0 (.int .u64 0)).put 1 (.int .u64 0)).put 2 (.slice none 0 0)).put 3 (.bool false))
      have hld := run_loadVar_row (P := Tryd.prog) _ (w.heap.size + 1) 34 34 _ (0, 0) _ r1 Tryd.underlying34 rfl infoGot
      have k5 := (((((Keeps.refl (fun i => w.heap.size ≤ i ∧ i < (((w.alloc (.cells #[.int .i64 2, .int .u64 u, .int .u64 v, .slice S n c] 28)).alloc (.cells #[.int .u64 0, .int .u64 0, .slice none 0 0, .bool false] 34)).alloc (.cells #[.int .u64 0, .int .u64 0, .slice none 0 0, .bool false] 34)).heap.size) w4).setCell (p := ⟨w.heap.size + 1, 0, none⟩) (.inl ⟨by show w.heap.size ≤ w.heap.size + 1; omega, by rw [HSZ.out]; show w.heap.size + 1 < _; omega⟩) (.int .u64 0)).setCell (p := ⟨w.heap.size + 1, 1, none⟩) (.inl ⟨by show w.heap.size ≤ w.heap.size + 1; omega, by rw [HSZ.out]; show w.heap.size + 1 < _; omega⟩) (.int .u64 0)).setCell (p := ⟨w.heap.size + 1, 2, none⟩) (.inl ⟨by show w.heap.size ≤ w.heap.size + 1; omega, by rw [HSZ.out]; show w.heap.size + 1 < _; omega⟩) (.slice none 0 0)).setCell (p := ⟨w.heap.size + 1, 3, none⟩) (.inl ⟨by show w.heap.size ≤ w.heap.size + 1; omega, by rw [HSZ.out]; show w.heap.size + 1 < _; omega⟩) (.bool false))
      have hfin := go_put HR.out HK0.out hgo k5 HD.out
      exact bodyPost_ret (results_cell1 rfl _ ⟨w.heap.size + 1, 0, none⟩ _ _ rfl hld) rfl (by rw [HM.out]; exact get_done hfin)
    · rw [show (decide (1 = 1)) = true from rfl]
      go_wp2_with fail
      have r1 := (((((h1.far (p := ⟨w.heap.size + 2, 0, none⟩) (by show w.heap.size + 1 ≠ w.heap.size + 2; omega) (.int .u64 1)).put 0 (.int .u64 1)).put 1 (.int .u64 0)).put 2 (.slice none 0 0)).put 3 (.bool false))
      have hld := run_loadVar_row (P := Tryd.prog) _ (w.heap.size + 1) 34 34 _ (0, 0) _ r1 Tryd.underlying34 rfl infoGot
      have k5 := ((((((Keeps.refl (fun i => w.heap.size ≤ i ∧ i < (((w.alloc (.cells #[.int .i64 2, .int .u64 u, .int .u64 v, .slice S n c] 28)).alloc (.cells #[.int .u64 0, .int .u64 0, .slice none 0 0, .bool false] 34)).alloc (.cells #[.int .u64 0, .int .u64 0, .slice none 0 0, .bool false] 34)).heap.size) w4).setCell (p := ⟨w.heap.size + 2, 0, none⟩) (.inl ⟨by show w.heap.size ≤ w.heap.size + 2; omega, by rw [HSZ.out]; show w.heap.size + 2 < _; omega⟩) (.int .u64 1)).setCell (p := ⟨w.heap.size + 1, 0, none⟩) (.inl ⟨by show w.heap.size ≤ w.heap.size + 1; omega, by rw [HSZ.out]; show w.heap.size + 1 < _; omega⟩) (.int .u64 1)).setCell (p := ⟨w.heap.size + 1, 1, none⟩) (.inl ⟨by show w.heap.size ≤ w.heap.size + 1; omega, by rw [HSZ.out]; show w.heap.size + 1 < _; omega⟩) (.int .u64 0)).setCell (p := ⟨w.heap.size + 1, 2, none⟩) (.inl ⟨by show w.heap.size ≤ w.heap.size + 1; omega, by rw [HSZ.out]; show w.heap.size + 1 < _; omega⟩) (.slice none 0 0)).setCell (p := ⟨w.heap.size + 1, 3, none⟩) (.inl ⟨by show w.heap.size ≤ w.heap.size + 1; omega, by rw [HSZ.out]; show w.heap.size + 1 < _; omega⟩) (.bool false))
      have hfin := go_put HR.out HK0.out hgo k5 HD.out
      exact bodyPost_ret (results_cell1 rfl _ ⟨w.heap.size + 1, 0, none⟩ _ _ rfl hld) rfl (by rw [HM.out]; exact get_done hfin)
  · have HM := Lib.hid (show boolM d = none by
      rcases d with _ | ⟨b, d⟩
      · rfl
      · unfold fixB at ho
        simp only at ho
        split at ho
        · cases ho
        · rename_i hb
          rw [boolM, if_neg hb])
    clear ho
    have h1 := HG1.out.keeps hgo.keeps (HN.out _ (.inl rfl))
    have h2 := HG2.out.keeps hgo.keeps (HN.out _ (.inr (.inl rfl)))
    have hne : w.heap.size + 1 ≠ w.heap.size + 2 := by omega
    have a0 : w4.cell? ⟨w.heap.size + 2, 0, none⟩ = some (.int .u64 0) := h2.cell 0
    have a1 : w4.cell? ⟨w.heap.size + 2, 1, none⟩ = some (.int .u64 0) := h2.cell 1
    have a2 : w4.cell? ⟨w.heap.size + 2, 2, none⟩ = some (.slice none 0 0) := h2.cell 2
    have a3 : w4.cell? ⟨w.heap.size + 2, 3, none⟩ = some (.bool false) := h2.cell 3
    have b0 : w4.cell? ⟨w.heap.size + 1, 0, none⟩ = some (.int .u64 0) := h1.cell 0
    have b1 : w4.cell? ⟨w.heap.size + 1, 1, none⟩ = some (.int .u64 0) := h1.cell 1
    have b2 : w4.cell? ⟨w.heap.size + 1, 2, none⟩ = some (.slice none 0 0) := h1.cell 2
    have b3 : w4.cell? ⟨w.heap.size + 1, 3, none⟩ = some (.bool false) := h1.cell 3
    have z20 : w4.frozen? ⟨w.heap.size + 2, 0, none⟩ = false := h2.frozen 0
    have z21 : w4.frozen? ⟨w.heap.size + 2, 1, none⟩ = false := h2.frozen 1
    have z22 : w4.frozen? ⟨w.heap.size + 2, 2, none⟩ = false := h2.frozen 2
    have z10 : w4.frozen? ⟨w.heap.size + 1, 0, none⟩ = false := h1.frozen 0
    have z11 : w4.frozen? ⟨w.heap.size + 1, 1, none⟩ = false := h1.frozen 1
    have z12 : w4.frozen? ⟨w.heap.size + 1, 2, none⟩ = false := h1.frozen 2
    have z13 : w4.frozen? ⟨w.heap.size + 1, 3, none⟩ = false := h1.frozen 3
    have hl1 := h1.lt
    have hl2 := h2.lt
    go_wp2_with fail
    have r1 := ((((h1.put 0 (.int .u64 0)).put 1 (.int .u64 0)).put 2 (.slice none 0 0)).put 3 (.bool true))
    have hld := run_loadVar_row (P := Tryd.prog) _ (w.heap.size + 1) 34 34 _ (0, 0) _ r1 Tryd.underlying34 rfl infoGot
    have k5 := (((((Keeps.refl (fun i => w.heap.size ≤ i ∧ i < (((w.alloc (.cells #[.int .i64 2, .int .u64 u, .int .u64 v, .slice S n c] 28)).alloc (.cells #[.int .u64 0, .int .u64 0, .slice none 0 0, .bool false] 34)).alloc (.cells #[.int .u64 0, .int .u64 0, .slice none 0 0, .bool false] 34)).heap.size) w4).setCell (p := ⟨w.heap.size + 1, 0, none⟩) (.inl ⟨by show w.heap.size ≤ w.heap.size + 1; omega, by rw [HSZ.out]; show w.heap.size + 1 < _; omega⟩) (.int .u64 0)).setCell (p := ⟨w.heap.size + 1, 1, none⟩) (.inl ⟨by show w.heap.size ≤ w.heap.size + 1; omega, by rw [HSZ.out]; show w.heap.size + 1 < _; omega⟩) (.int .u64 0)).setCell (p := ⟨w.heap.size + 1, 2, none⟩) (.inl ⟨by show w.heap.size ≤ w.heap.size + 1; omega, by rw [HSZ.out]; show w.heap.size + 1 < _; omega⟩) (.slice none 0 0)).setCell (p := ⟨w.heap.size + 1, 3, none⟩) (.inl ⟨by show w.heap.size ≤ w.heap.size + 1; omega, by rw [HSZ.out]; show w.heap.size + 1 < _; omega⟩) (.bool true))
    have hfin := go_put HR.out HK0.out hgo k5 HD.out
    exact bodyPost_ret (results_cell1 rfl _ ⟨w.heap.size + 1, 0, none⟩ _ _ rfl hld) rfl (.inr ⟨l, HM.out, rfl, hfin⟩)
end Go.Proofs.YthfoleapdmpdfaaDoor
