/- The arms of Prim.more that read floats, wide numbers and varints. Conditions: those of the reader. -/
import Derived.Test.YthfoleapdmpdfaaDoorRg
import Derived.Test.YthfoleapdmpdfaaDoorRf
import Derived.Deep.RegionHeld3
namespace Go.Proofs.YthfoleapdmpdfaaDoor
open Go.RowKit Go.Lib
set_option linter.unusedVariables false
theorem uvGo_lt : ∀ (k i acc : Nat) (d : List UInt8) (x : Nat) (l : List UInt8), k + i = 10 → acc < 2 ^ (7 * i) → uvGo k i acc d = some (x, l) → x < 18446744073709551616
  | 0, _, _, _, _, _, _, _, h => by rw [uvGo_zero] at h; cases h
  | _ + 1, _, _, [], _, _, _, _, h => by cases h
  | k + 1, i, acc, b :: t, x, l, hk, ha, h => by
    unfold uvGo at h
    have hp : 128 * 2 ^ (7 * i) = 2 ^ (7 * (i + 1)) := by
      rw [show 7 * (i + 1) = 7 * i + 7 by omega, Nat.pow_add]; omega
    have hb := b.toNat_lt
    split at h
    · rename_i hlt
      split at h
      · cases h
      · rename_i hn
        injection h with h
        injection h with h1 h2
        subst h1
        by_cases hi : i = 9
        · subst hi
          have hle : b.toNat ≤ 1 := by omega
          have := Nat.mul_le_mul_right (2 ^ (7 * 9)) hle
          omega
        · have hpp : 2 ^ (7 * (i + 1)) ≤ 2 ^ 63 := Nat.pow_le_pow_right (by omega) (by omega)
          have := Nat.mul_le_mul_right (2 ^ (7 * i)) (show b.toNat ≤ 127 by omega)
          omega
    · rename_i hge
      refine uvGo_lt k (i + 1) _ t x l (by omega) ?_ h
      have := Nat.mul_le_mul_right (2 ^ (7 * i)) (show b.toNat - 128 ≤ 127 by omega)
      omega
set_option maxRecDepth 100000 in
set_option maxHeartbeats 4000000 in
theorem mr11 (w : World) (base rb bb : Nat) (D R : Option Nat) (d : List UInt8) (hR : RdrOn w base rb bb D R d) (hD : ∀ i, D = some i → i < w.heap.size) (u v : Int) (S : Option Addr) (n c : Nat) : Calls Tryd.prog 47 #[.agg #[.int .i64 11, .int .u64 u, .int .u64 v, .slice S n c], .pointer (some ⟨rb, 0, none⟩)] w (GetOk w base rb bb D R (numM 4 d)) := by
  obtain ⟨K0, hp0, hg1, hg2⟩ := start3 w 28 34 #[.int .i64 11, .int .u64 u, .int .u64 v, .slice S n c] #[.int .u64 0, .int .u64 0, .slice none 0 0, .bool false] #[.int .u64 0, .int .u64 0, .slice none 0 0, .bool false]
  have HK0 := Lib.hid K0
  have HP0 := Lib.hid hp0
  have HG1 := Lib.hid hg1
  have HG2 := Lib.hid hg2
  have HR := Lib.hid hR
  have HN := Lib.hid (own_new hR)
  have HD := Lib.hid hD
  have HAP := appNil
  have HU := Lib.hid (rwFloat32 _ base rb bb D R d (hR.new K0))
  have hx0 := ext32b
  have hx1 := hx0 0
  have HSZ := Lib.hid (size3 w (.cells #[.int .i64 11, .int .u64 u, .int .u64 v, .slice S n c] 28) (.cells #[.int .u64 0, .int .u64 0, .slice none 0 0, .bool false] 34) (.cells #[.int .u64 0, .int .u64 0, .slice none 0 0, .bool false] 34))
  clear hR K0 hp0 hg1 hg2 hD
  go_enter Tryd.func47, Tryd.ntmps47
  go_wp2_with fail
  refine HU.out.mono ?_
  rintro e w4 (⟨y, l, ho, rfl, hgo⟩ | ⟨x, l, ho, rfl, ⟨a, rfl⟩, hgo⟩)
  · obtain ⟨x, hy, hx, hM⟩ := fix_some ho
    simp only [Nat.reducePow] at hx
    rw [show fFloat32 x = .float .f32 x from rfl] at hy
    have c2 : IntKind.u64.wrap (x : Int) = (x : Int) := by rw [IntKind.wrap_u64]; omega
    subst hy
    have HM := Lib.hid hM
    clear ho hM hx
    have h1 := HG1.out.keeps hgo.keeps (HN.out _ (.inl rfl))
    have h2 := HG2.out.keeps hgo.keeps (HN.out _ (.inr (.inl rfl)))
    have hne : w.heap.size + 1 ≠ w.heap.size + 2 := by omega
    have a0 : w4.cell? ⟨w.heap.size + 2, 0, none⟩ = some (.int .u64 0) := h2.cell 0
    have a1 : w4.cell? ⟨w.heap.size + 2, 1, none⟩ = some (.int .u64 0) := h2.cell 1
    have a2 : w4.cell? ⟨w.heap.size + 2, 2, none⟩ = some (.slice none 0 0) := h2.cell 2
    have a3 : w4.cell? ⟨w.heap.size + 2, 3, none⟩ = some (.bool false) := h2.cell 3
    have b0 : w4.cell? ⟨w.heap.size + 1, 0, none⟩ = some (.int .u64 0) := h1.cell 0
    have b1 : w4.cell? ⟨w.heap.size + 1, 1, none⟩ = some (.int .u64 0) := h1.cell 1
    have b2 : w4.cell? ⟨w.heap.size + 1, 2, none⟩ = some (.slice none 0 0) := h1.cell 2
    have b3 : w4.cell? ⟨w.heap.size + 1, 3, none⟩ = some (.bool false) := h1.cell 3
    have z20 : w4.frozen? ⟨w.heap.size + 2, 0, none⟩ = false := h2.frozen 0
    have z21 : w4.frozen? ⟨w.heap.size + 2, 1, none⟩ = false := h2.frozen 1
    have z22 : w4.frozen? ⟨w.heap.size + 2, 2, none⟩ = false := h2.frozen 2
    have z10 : w4.frozen? ⟨w.heap.size + 1, 0, none⟩ = false := h1.frozen 0
    have z11 : w4.frozen? ⟨w.heap.size + 1, 1, none⟩ = false := h1.frozen 1
    have z12 : w4.frozen? ⟨w.heap.size + 1, 2, none⟩ = false := h1.frozen 2
    have z13 : w4.frozen? ⟨w.heap.size + 1, 3, none⟩ = false := h1.frozen 3
    have hl1 := h1.lt
    have hl2 := h2.lt
    go_wp2_with fail
    have r1 := ((((((h1.far (p := ⟨w.heap.size + 2, 0, none⟩) (by show w.heap.size + 1 ≠ w.heap.size + 2; omega) (.int .u64 (x : Int))).far (p := ⟨w.heap.size + 2, 2, none⟩) (by show w.heap.size + 1 ≠ w.heap.size + 2; omega) (.slice none 0 0)).put 0 (.int .u64 (x : Int))).put 1 (.int .u64 0)).put 2 (.slice none 0 0)).put 3 (.bool false))
    have hld := run_loadVar_row (P := Tryd.prog) _ (w.heap.size + 1) 34 34 _ (0, 0) _ r1 Tryd.underlying34 rfl infoGot
    have k5 := (((((((Keeps.refl (fun i => w.heap.size ≤ i ∧ i < (((w.alloc (.cells #[.int .i64 11, .int .u64 u, .int .u64 v, .slice S n c] 28)).alloc (.cells #[.int .u64 0, .int .u64 0, .slice none 0 0, .bool false] 34)).alloc (.cells #[.int .u64 0, .int .u64 0, .slice none 0 0, .bool false] 34)).heap.size) w4).setCell (p := ⟨w.heap.size + 2, 0, none⟩) (.inl ⟨by show w.heap.size ≤ w.heap.size + 2; omega, by rw [HSZ.out]; show w.heap.size + 2 < _; omega⟩) (.int .u64 (x : Int))).setCell (p := ⟨w.heap.size + 2, 2, none⟩) (.inl ⟨by show w.heap.size ≤ w.heap.size + 2; omega, by rw [HSZ.out]; show w.heap.size + 2 < _; omega⟩) (.slice none 0 0)).setCell (p := ⟨w.heap.size + 1, 0, none⟩) (.inl ⟨by show w.heap.size ≤ w.heap.size + 1; omega, by rw [HSZ.out]; show w.heap.size + 1 < _; omega⟩) (.int .u64 (x : Int))).setCell (p := ⟨w.heap.size + 1, 1, none⟩) (.inl ⟨by show w.heap.size ≤ w.heap.size + 1; omega, by rw [HSZ.out]; show w.heap.size + 1 < _; omega⟩) (.int .u64 0)).setCell (p := ⟨w.heap.size + 1, 2, none⟩) (.inl ⟨by show w.heap.size ≤ w.heap.size + 1; omega, by rw [HSZ.out]; show w.heap.size + 1 < _; omega⟩) (.slice none 0 0)).setCell (p := ⟨w.heap.size + 1, 3, none⟩) (.inl ⟨by show w.heap.size ≤ w.heap.size + 1; omega, by rw [HSZ.out]; show w.heap.size + 1 < _; omega⟩) (.bool false))
    have hfin := go_put HR.out HK0.out hgo k5 HD.out
    exact bodyPost_ret (results_cell1 rfl _ ⟨w.heap.size + 1, 0, none⟩ _ _ rfl hld) rfl (by rw [HM.out]; exact get_done hfin)
  · have HM := Lib.hid (fix_none ho)
    clear ho
    have h1 := HG1.out.keeps hgo.keeps (HN.out _ (.inl rfl))
    have h2 := HG2.out.keeps hgo.keeps (HN.out _ (.inr (.inl rfl)))
    have hne : w.heap.size + 1 ≠ w.heap.size + 2 := by omega
    have a0 : w4.cell? ⟨w.heap.size + 2, 0, none⟩ = some (.int .u64 0) := h2.cell 0
    have a1 : w4.cell? ⟨w.heap.size + 2, 1, none⟩ = some (.int .u64 0) := h2.cell 1
    have a2 : w4.cell? ⟨w.heap.size + 2, 2, none⟩ = some (.slice none 0 0) := h2.cell 2
    have a3 : w4.cell? ⟨w.heap.size + 2, 3, none⟩ = some (.bool false) := h2.cell 3
    have b0 : w4.cell? ⟨w.heap.size + 1, 0, none⟩ = some (.int .u64 0) := h1.cell 0
    have b1 : w4.cell? ⟨w.heap.size + 1, 1, none⟩ = some (.int .u64 0) := h1.cell 1
    have b2 : w4.cell? ⟨w.heap.size + 1, 2, none⟩ = some (.slice none 0 0) := h1.cell 2
    have b3 : w4.cell? ⟨w.heap.size + 1, 3, none⟩ = some (.bool false) := h1.cell 3
    have z20 : w4.frozen? ⟨w.heap.size + 2, 0, none⟩ = false := h2.frozen 0
    have z21 : w4.frozen? ⟨w.heap.size + 2, 1, none⟩ = false := h2.frozen 1
    have z22 : w4.frozen? ⟨w.heap.size + 2, 2, none⟩ = false := h2.frozen 2
    have z10 : w4.frozen? ⟨w.heap.size + 1, 0, none⟩ = false := h1.frozen 0
    have z11 : w4.frozen? ⟨w.heap.size + 1, 1, none⟩ = false := h1.frozen 1
    have z12 : w4.frozen? ⟨w.heap.size + 1, 2, none⟩ = false := h1.frozen 2
    have z13 : w4.frozen? ⟨w.heap.size + 1, 3, none⟩ = false := h1.frozen 3
    have hl1 := h1.lt
    have hl2 := h2.lt
    go_wp2_with fail
    have r1 := (((((h1.far (p := ⟨w.heap.size + 2, 0, none⟩) (by show w.heap.size + 1 ≠ w.heap.size + 2; omega) (.int .u64 0)).put 0 (.int .u64 0)).put 1 (.int .u64 0)).put 2 (.slice none 0 0)).put 3 (.bool true))
    have hld := run_loadVar_row (P := Tryd.prog) _ (w.heap.size + 1) 34 34 _ (0, 0) _ r1 Tryd.underlying34 rfl infoGot
    have k5 := ((((((Keeps.refl (fun i => w.heap.size ≤ i ∧ i < (((w.alloc (.cells #[.int .i64 11, .int .u64 u, .int .u64 v, .slice S n c] 28)).alloc (.cells #[.int .u64 0, .int .u64 0, .slice none 0 0, .bool false] 34)).alloc (.cells #[.int .u64 0, .int .u64 0, .slice none 0 0, .bool false] 34)).heap.size) w4).setCell (p := ⟨w.heap.size + 2, 0, none⟩) (.inl ⟨by show w.heap.size ≤ w.heap.size + 2; omega, by rw [HSZ.out]; show w.heap.size + 2 < _; omega⟩) (.int .u64 0)).setCell (p := ⟨w.heap.size + 1, 0, none⟩) (.inl ⟨by show w.heap.size ≤ w.heap.size + 1; omega, by rw [HSZ.out]; show w.heap.size + 1 < _; omega⟩) (.int .u64 0)).setCell (p := ⟨w.heap.size + 1, 1, none⟩) (.inl ⟨by show w.heap.size ≤ w.heap.size + 1; omega, by rw [HSZ.out]; show w.heap.size + 1 < _; omega⟩) (.int .u64 0)).setCell (p := ⟨w.heap.size + 1, 2, none⟩) (.inl ⟨by show w.heap.size ≤ w.heap.size + 1; omega, by rw [HSZ.out]; show w.heap.size + 1 < _; omega⟩) (.slice none 0 0)).setCell (p := ⟨w.heap.size + 1, 3, none⟩) (.inl ⟨by show w.heap.size ≤ w.heap.size + 1; omega, by rw [HSZ.out]; show w.heap.size + 1 < _; omega⟩) (.bool true))
    have hfin := go_put HR.out HK0.out hgo k5 HD.out
    exact bodyPost_ret (results_cell1 rfl _ ⟨w.heap.size + 1, 0, none⟩ _ _ rfl hld) rfl (.inr ⟨l, HM.out, rfl, hfin⟩)
set_option maxRecDepth 100000 in
set_option maxHeartbeats 4000000 in
theorem mr12 (w : World) (base rb bb : Nat) (D R : Option Nat) (d : List UInt8) (hR : RdrOn w base rb bb D R d) (hD : ∀ i, D = some i → i < w.heap.size) (u v : Int) (S : Option Addr) (n c : Nat) : Calls Tryd.prog 47 #[.agg #[.int .i64 12, .int .u64 u, .int .u64 v, .slice S n c], .pointer (some ⟨rb, 0, none⟩)] w (GetOk w base rb bb D R (numM 8 d)) := by
  obtain ⟨K0, hp0, hg1, hg2⟩ := start3 w 28 34 #[.int .i64 12, .int .u64 u, .int .u64 v, .slice S n c] #[.int .u64 0, .int .u64 0, .slice none 0 0, .bool false] #[.int .u64 0, .int .u64 0, .slice none 0 0, .bool false]
  have HK0 := Lib.hid K0
  have HP0 := Lib.hid hp0
  have HG1 := Lib.hid hg1
  have HG2 := Lib.hid hg2
  have HR := Lib.hid hR
  have HN := Lib.hid (own_new hR)
  have HD := Lib.hid hD
  have HAP := appNil
  have HU := Lib.hid (rwFloat64 _ base rb bb D R d (hR.new K0))
  have hx0 := ext64b
  have hx1 := hx0 0
  have HSZ := Lib.hid (size3 w (.cells #[.int .i64 12, .int .u64 u, .int .u64 v, .slice S n c] 28) (.cells #[.int .u64 0, .int .u64 0, .slice none 0 0, .bool false] 34) (.cells #[.int .u64 0, .int .u64 0, .slice none 0 0, .bool false] 34))
  clear hR K0 hp0 hg1 hg2 hD
  go_enter Tryd.func47, Tryd.ntmps47
  go_wp2_with fail
  refine HU.out.mono ?_
  rintro e w4 (⟨y, l, ho, rfl, hgo⟩ | ⟨x, l, ho, rfl, ⟨a, rfl⟩, hgo⟩)
  · obtain ⟨x, hy, hx, hM⟩ := fix_some ho
    simp only [Nat.reducePow] at hx
    rw [show fFloat64 x = .float .f64 x from rfl] at hy
    have c2 : IntKind.u64.wrap (x : Int) = (x : Int) := by rw [IntKind.wrap_u64]; omega
    subst hy
    have HM := Lib.hid hM
    clear ho hM hx
    have h1 := HG1.out.keeps hgo.keeps (HN.out _ (.inl rfl))
    have h2 := HG2.out.keeps hgo.keeps (HN.out _ (.inr (.inl rfl)))
    have hne : w.heap.size + 1 ≠ w.heap.size + 2 := by omega
    have a0 : w4.cell? ⟨w.heap.size + 2, 0, none⟩ = some (.int .u64 0) := h2.cell 0
    have a1 : w4.cell? ⟨w.heap.size + 2, 1, none⟩ = some (.int .u64 0) := h2.cell 1
    have a2 : w4.cell? ⟨w.heap.size + 2, 2, none⟩ = some (.slice none 0 0) := h2.cell 2
    have a3 : w4.cell? ⟨w.heap.size + 2, 3, none⟩ = some (.bool false) := h2.cell 3
    have b0 : w4.cell? ⟨w.heap.size + 1, 0, none⟩ = some (.int .u64 0) := h1.cell 0
    have b1 : w4.cell? ⟨w.heap.size + 1, 1, none⟩ = some (.int .u64 0) := h1.cell 1
    have b2 : w4.cell? ⟨w.heap.size + 1, 2, none⟩ = some (.slice none 0 0) := h1.cell 2
    have b3 : w4.cell? ⟨w.heap.size + 1, 3, none⟩ = some (.bool false) := h1.cell 3
    have z20 : w4.frozen? ⟨w.heap.size + 2, 0, none⟩ = false := h2.frozen 0
    have z21 : w4.frozen? ⟨w.heap.size + 2, 1, none⟩ = false := h2.frozen 1
    have z22 : w4.frozen? ⟨w.heap.size + 2, 2, none⟩ = false := h2.frozen 2
    have z10 : w4.frozen? ⟨w.heap.size + 1, 0, none⟩ = false := h1.frozen 0
    have z11 : w4.frozen? ⟨w.heap.size + 1, 1, none⟩ = false := h1.frozen 1
    have z12 : w4.frozen? ⟨w.heap.size + 1, 2, none⟩ = false := h1.frozen 2
    have z13 : w4.frozen? ⟨w.heap.size + 1, 3, none⟩ = false := h1.frozen 3
    have hl1 := h1.lt
    have hl2 := h2.lt
    go_wp2_with fail
    have r1 := ((((((h1.far (p := ⟨w.heap.size + 2, 0, none⟩) (by show w.heap.size + 1 ≠ w.heap.size + 2; omega) (.int .u64 (x : Int))).far (p := ⟨w.heap.size + 2, 2, none⟩) (by show w.heap.size + 1 ≠ w.heap.size + 2; omega) (.slice none 0 0)).put 0 (.int .u64 (x : Int))).put 1 (.int .u64 0)).put 2 (.slice none 0 0)).put 3 (.bool false))
    have hld := run_loadVar_row (P := Tryd.prog) _ (w.heap.size + 1) 34 34 _ (0, 0) _ r1 Tryd.underlying34 rfl infoGot
    have k5 := (((((((Keeps.refl (fun i => w.heap.size ≤ i ∧ i < (((w.alloc (.cells #[.int .i64 12, .int .u64 u, .int .u64 v, .slice S n c] 28)).alloc (.cells #[.int .u64 0, .int .u64 0, .slice none 0 0, .bool false] 34)).alloc (.cells #[.int .u64 0, .int .u64 0, .slice none 0 0, .bool false] 34)).heap.size) w4).setCell (p := ⟨w.heap.size + 2, 0, none⟩) (.inl ⟨by show w.heap.size ≤ w.heap.size + 2; omega, by rw [HSZ.out]; show w.heap.size + 2 < _; omega⟩) (.int .u64 (x : Int))).setCell (p := ⟨w.heap.size + 2, 2, none⟩) (.inl ⟨by show w.heap.size ≤ w.heap.size + 2; omega, by rw [HSZ.out]; show w.heap.size + 2 < _; omega⟩) (.slice none 0 0)).setCell (p := ⟨w.heap.size + 1, 0, none⟩) (.inl ⟨by show w.heap.size ≤ w.heap.size + 1; omega, by rw [HSZ.out]; show w.heap.size + 1 < _; omega⟩) (.int .u64 (x : Int))).setCell (p := ⟨w.heap.size + 1, 1, none⟩) (.inl ⟨by show w.heap.size ≤ w.heap.size + 1; omega, by rw [HSZ.out]; show w.heap.size + 1 < _; omega⟩) (.int .u64 0)).setCell (p := ⟨w.heap.size + 1, 2, none⟩) (.inl ⟨by show w.heap.size ≤ w.heap.size + 1; omega, by rw [HSZ.out]; show w.heap.size + 1 < _; omega⟩) (.slice none 0 0)).setCell (p := ⟨w.heap.size + 1, 3, none⟩) (.inl ⟨by show w.heap.size ≤ w.heap.size + 1; omega, by rw [HSZ.out]; show w.heap.size + 1 < _; omega⟩) (.bool false))
    have hfin := go_put HR.out HK0.out hgo k5 HD.out
    exact bodyPost_ret (results_cell1 rfl _ ⟨w.heap.size + 1, 0, none⟩ _ _ rfl hld) rfl (by rw [HM.out]; exact get_done hfin)
  · have HM := Lib.hid (fix_none ho)
    clear ho
    have h1 := HG1.out.keeps hgo.keeps (HN.out _ (.inl rfl))
    have h2 := HG2.out.keeps hgo.keeps (HN.out _ (.inr (.inl rfl)))
    have hne : w.heap.size + 1 ≠ w.heap.size + 2 := by omega
    have a0 : w4.cell? ⟨w.heap.size + 2, 0, none⟩ = some (.int .u64 0) := h2.cell 0
    have a1 : w4.cell? ⟨w.heap.size + 2, 1, none⟩ = some (.int .u64 0) := h2.cell 1
    have a2 : w4.cell? ⟨w.heap.size + 2, 2, none⟩ = some (.slice none 0 0) := h2.cell 2
    have a3 : w4.cell? ⟨w.heap.size + 2, 3, none⟩ = some (.bool false) := h2.cell 3
    have b0 : w4.cell? ⟨w.heap.size + 1, 0, none⟩ = some (.int .u64 0) := h1.cell 0
    have b1 : w4.cell? ⟨w.heap.size + 1, 1, none⟩ = some (.int .u64 0) := h1.cell 1
    have b2 : w4.cell? ⟨w.heap.size + 1, 2, none⟩ = some (.slice none 0 0) := h1.cell 2
    have b3 : w4.cell? ⟨w.heap.size + 1, 3, none⟩ = some (.bool false) := h1.cell 3
    have z20 : w4.frozen? ⟨w.heap.size + 2, 0, none⟩ = false := h2.frozen 0
    have z21 : w4.frozen? ⟨w.heap.size + 2, 1, none⟩ = false := h2.frozen 1
    have z22 : w4.frozen? ⟨w.heap.size + 2, 2, none⟩ = false := h2.frozen 2
    have z10 : w4.frozen? ⟨w.heap.size + 1, 0, none⟩ = false := h1.frozen 0
    have z11 : w4.frozen? ⟨w.heap.size + 1, 1, none⟩ = false := h1.frozen 1
    have z12 : w4.frozen? ⟨w.heap.size + 1, 2, none⟩ = false := h1.frozen 2
    have z13 : w4.frozen? ⟨w.heap.size + 1, 3, none⟩ = false := h1.frozen 3
    have hl1 := h1.lt
    have hl2 := h2.lt
    go_wp2_with fail
    have r1 := (((((h1.far (p := ⟨w.heap.size + 2, 0, none⟩) (by show w.heap.size + 1 ≠ w.heap.size + 2; omega) (.int .u64 0)).put 0 (.int .u64 0)).put 1 (.int .u64 0)).put 2 (.slice none 0 0)).put 3 (.bool true))
    have hld := run_loadVar_row (P := Tryd.prog) _ (w.heap.size + 1) 34 34 _ (0, 0) _ r1 Tryd.underlying34 rfl infoGot
    have k5 := ((((((Keeps.refl (fun i => w.heap.size ≤ i ∧ i < (((w.alloc (.cells #[.int .i64 12, .int .u64 u, .int .u64 v, .slice S n c] 28)).alloc (.cells #[.int .u64 0, .int .u64 0, .slice none 0 0, .bool false] 34)).alloc (.cells #[.int .u64 0, .int .u64 0, .slice none 0 0, .bool false] 34)).heap.size) w4).setCell (p := ⟨w.heap.size + 2, 0, none⟩) (.inl ⟨by show w.heap.size ≤ w.heap.size + 2; omega, by rw [HSZ.out]; show w.heap.size + 2 < _; omega⟩) (.int .u64 0)).setCell (p := ⟨w.heap.size + 1, 0, none⟩) (.inl ⟨by show w.heap.size ≤ w.heap.size + 1; omega, by rw [HSZ.out]; show w.heap.size + 1 < _; omega⟩) (.int .u64 0)).setCell (p := ⟨w.heap.size + 1, 1, none⟩) (.inl ⟨by show w.heap.size ≤ w.heap.size + 1; omega, by rw [HSZ.out]; show w.heap.size + 1 < _; omega⟩) (.int .u64 0)).setCell (p := ⟨w.heap.size + 1, 2, none⟩) (.inl ⟨by show w.heap.size ≤ w.heap.size + 1; omega, by rw [HSZ.out]; show w.heap.size + 1 < _; omega⟩) (.slice none 0 0)).setCell (p := ⟨w.heap.size + 1, 3, none⟩) (.inl ⟨by show w.heap.size ≤ w.heap.size + 1; omega, by rw [HSZ.out]; show w.heap.size + 1 < _; omega⟩) (.bool true))
    have hfin := go_put HR.out HK0.out hgo k5 HD.out
    exact bodyPost_ret (results_cell1 rfl _ ⟨w.heap.size + 1, 0, none⟩ _ _ rfl hld) rfl (.inr ⟨l, HM.out, rfl, hfin⟩)
set_option maxRecDepth 100000 in
set_option maxHeartbeats 4000000 in
theorem mr13 (w : World) (base rb bb : Nat) (D R : Option Nat) (d : List UInt8) (hR : RdrOn w base rb bb D R d) (hD : ∀ i, D = some i → i < w.heap.size) (u v : Int) (S : Option Addr) (n c : Nat) : Calls Tryd.prog 47 #[.agg #[.int .i64 13, .int .u64 u, .int .u64 v, .slice S n c], .pointer (some ⟨rb, 0, none⟩)] w (GetOk w base rb bb D R (wideM d)) := by
  obtain ⟨K0, hp0, hg1, hg2⟩ := start3 w 28 34 #[.int .i64 13, .int .u64 u, .int .u64 v, .slice S n c] #[.int .u64 0, .int .u64 0, .slice none 0 0, .bool false] #[.int .u64 0, .int .u64 0, .slice none 0 0, .bool false]
  have HK0 := Lib.hid K0
  have HP0 := Lib.hid hp0
  have HG1 := Lib.hid hg1
  have HG2 := Lib.hid hg2
  have HR := Lib.hid hR
  have HN := Lib.hid (own_new hR)
  have HD := Lib.hid hD
  have HAP := appNil
  have K4 := K0.alloc (.cells #[.int .u64 0, .int .u64 0] 114)
  have HK4 := Lib.hid K4
  have HG1 := Lib.hid (hg1.alloc (.cells #[.int .u64 0, .int .u64 0] 114))
  have HG2 := Lib.hid (hg2.alloc (.cells #[.int .u64 0, .int .u64 0] 114))
  have hg3 := Whole.new (((w.alloc (.cells #[.int .i64 13, .int .u64 u, .int .u64 v, .slice S n c] 28)).alloc (.cells #[.int .u64 0, .int .u64 0, .slice none 0 0, .bool false] 34)).alloc (.cells #[.int .u64 0, .int .u64 0, .slice none 0 0, .bool false] 34)) 114 #[.int .u64 0, .int .u64 0]
  rw [size3] at hg3
  have HG3 := Lib.hid hg3
  have HU := Lib.hid (rwInt128 _ base rb bb D R d (hR.new K4) (fun i hi => Nat.lt_of_lt_of_le (hD i hi) K4.size))
  have HSZ := Lib.hid (show ((((w.alloc (.cells #[.int .i64 13, .int .u64 u, .int .u64 v, .slice S n c] 28)).alloc (.cells #[.int .u64 0, .int .u64 0, .slice none 0 0, .bool false] 34)).alloc (.cells #[.int .u64 0, .int .u64 0, .slice none 0 0, .bool false] 34)).alloc (.cells #[.int .u64 0, .int .u64 0] 114)).heap.size = w.heap.size + 4 by rw [World.size_alloc, size3])
  clear hR K0 K4 hp0 hg1 hg2 hg3 hD
  go_enter Tryd.func47, Tryd.ntmps47
  go_wp2_with fail
  refine HU.out.mono ?_
  rintro e w4 (⟨y, l, ho, rfl, hgo⟩ | ⟨x, l, ho, rfl, ⟨a, rfl⟩, hgo⟩)
  · obtain ⟨x, y2, hv, hM⟩ : ∃ x y2 : Nat, y = .agg #[.int .u64 (x : Int), .int .u64 (y2 : Int)] ∧ wideM d = some (x, y2, [], l) := by
      unfold fixW at ho
      split at ho
      · cases ho
      · rename_i hd
        injection ho with ho
        injection ho with h1 h2
        exact ⟨_, _, h1.symm, by rw [wideM, if_neg hd, h2]⟩
    subst hv
    have HM := Lib.hid hM
    clear ho hM
    have h1 := HG1.out.keeps hgo.keeps (HN.out _ (.inl rfl))
    have h2 := HG2.out.keeps hgo.keeps (HN.out _ (.inr (.inl rfl)))
    have hne : w.heap.size + 1 ≠ w.heap.size + 2 := by omega
    have a0 : w4.cell? ⟨w.heap.size + 2, 0, none⟩ = some (.int .u64 0) := h2.cell 0
    have a1 : w4.cell? ⟨w.heap.size + 2, 1, none⟩ = some (.int .u64 0) := h2.cell 1
    have a2 : w4.cell? ⟨w.heap.size + 2, 2, none⟩ = some (.slice none 0 0) := h2.cell 2
    have a3 : w4.cell? ⟨w.heap.size + 2, 3, none⟩ = some (.bool false) := h2.cell 3
    have b0 : w4.cell? ⟨w.heap.size + 1, 0, none⟩ = some (.int .u64 0) := h1.cell 0
    have b1 : w4.cell? ⟨w.heap.size + 1, 1, none⟩ = some (.int .u64 0) := h1.cell 1
    have b2 : w4.cell? ⟨w.heap.size + 1, 2, none⟩ = some (.slice none 0 0) := h1.cell 2
    have b3 : w4.cell? ⟨w.heap.size + 1, 3, none⟩ = some (.bool false) := h1.cell 3
    have z20 : w4.frozen? ⟨w.heap.size + 2, 0, none⟩ = false := h2.frozen 0
    have z21 : w4.frozen? ⟨w.heap.size + 2, 1, none⟩ = false := h2.frozen 1
    have z22 : w4.frozen? ⟨w.heap.size + 2, 2, none⟩ = false := h2.frozen 2
    have z10 : w4.frozen? ⟨w.heap.size + 1, 0, none⟩ = false := h1.frozen 0
    have z11 : w4.frozen? ⟨w.heap.size + 1, 1, none⟩ = false := h1.frozen 1
    have z12 : w4.frozen? ⟨w.heap.size + 1, 2, none⟩ = false := h1.frozen 2
    have z13 : w4.frozen? ⟨w.heap.size + 1, 3, none⟩ = false := h1.frozen 3
    have hl1 := h1.lt
    have hl2 := h2.lt
    have h3 := HG3.out.keeps hgo.keeps (HN.out _ (.inr (.inr (.inl rfl))))
    have hne13 : w.heap.size + 1 ≠ w.heap.size + 3 := by omega
    have hne23 : w.heap.size + 2 ≠ w.heap.size + 3 := by omega
    have g0 : w4.cell? ⟨w.heap.size + 3, 0, none⟩ = some (.int .u64 0) := h3.cell 0
    have g1 : w4.cell? ⟨w.heap.size + 3, 1, none⟩ = some (.int .u64 0) := h3.cell 1
    have z30 : w4.frozen? ⟨w.heap.size + 3, 0, none⟩ = false := h3.frozen 0
    have z31 : w4.frozen? ⟨w.heap.size + 3, 1, none⟩ = false := h3.frozen 1
    have hl3 := h3.lt
    have hw5 := (h3.put 0 (.int .u64 (x : Int))).put 1 (.int .u64 (y2 : Int))
    have hs0 : (fun w' => w'.cell? ⟨w.heap.size + 3, 0, none⟩ = some (.int .u64 (x : Int)) ∧ w'.cell? ⟨w.heap.size + 3, 1, none⟩ = some (.int .u64 (y2 : Int))) ((w4.setCell ⟨w.heap.size + 3, 0, none⟩ (.int .u64 (x : Int))).setCell ⟨w.heap.size + 3, 1, none⟩ (.int .u64 (y2 : Int))).drew := ⟨(hw5.keeps ((Keeps.refl (fun _ => False) _).drew) (fun h => h)).cell 0, (hw5.keeps ((Keeps.refl (fun _ => False) _).drew) (fun h => h)).cell 1⟩
    have hw6 := hw5.far (p := ⟨w.heap.size + 2, 0, none⟩) (by show w.heap.size + 3 ≠ w.heap.size + 2; omega) (.int .u64 (x : Int))
    have hs1 : (fun w' => w'.cell? ⟨w.heap.size + 3, 0, none⟩ = some (.int .u64 (x : Int)) ∧ w'.cell? ⟨w.heap.size + 3, 1, none⟩ = some (.int .u64 (y2 : Int))) (((w4.setCell ⟨w.heap.size + 3, 0, none⟩ (.int .u64 (x : Int))).setCell ⟨w.heap.size + 3, 1, none⟩ (.int .u64 (y2 : Int))).setCell ⟨w.heap.size + 2, 0, none⟩ (.int .u64 (x : Int))).drew := ⟨(hw6.keeps ((Keeps.refl (fun _ => False) _).drew) (fun h => h)).cell 0, (hw6.keeps ((Keeps.refl (fun _ => False) _).drew) (fun h => h)).cell 1⟩
    have hw7 := hw6.far (p := ⟨w.heap.size + 2, 1, none⟩) (by show w.heap.size + 3 ≠ w.heap.size + 2; omega) (.int .u64 (y2 : Int))
    have hs2 : (fun w' => w'.cell? ⟨w.heap.size + 3, 0, none⟩ = some (.int .u64 (x : Int)) ∧ w'.cell? ⟨w.heap.size + 3, 1, none⟩ = some (.int .u64 (y2 : Int))) ((((w4.setCell ⟨w.heap.size + 3, 0, none⟩ (.int .u64 (x : Int))).setCell ⟨w.heap.size + 3, 1, none⟩ (.int .u64 (y2 : Int))).setCell ⟨w.heap.size + 2, 0, none⟩ (.int .u64 (x : Int))).setCell ⟨w.heap.size + 2, 1, none⟩ (.int .u64 (y2 : Int))).drew := ⟨(hw7.keeps ((Keeps.refl (fun _ => False) _).drew) (fun h => h)).cell 0, (hw7.keeps ((Keeps.refl (fun _ => False) _).drew) (fun h => h)).cell 1⟩
    go_wp2_with fail
    simp only [show w.heap.size + 1 + 1 + 1 = w.heap.size + 3 from rfl, show w.heap.size + 1 + 1 = w.heap.size + 2 from rfl]
    go_region_held3 (fun w' => w'.cell? ⟨w.heap.size + 3, 0, none⟩ = some (.int .u64 (x : Int)) ∧ w'.cell? ⟨w.heap.size + 3, 1, none⟩ = some (.int .u64 (y2 : Int))) (with_reducible first | exact hs0 | exact hs1 | exact hs2) (fail)
    all_goals (go_wp2_with fail)
    have r0 := (((((((((h1.far (p := ⟨w.heap.size + 3, 0, none⟩) (by show w.heap.size + 1 ≠ w.heap.size + 3; omega) (.int .u64 (x : Int))).far (p := ⟨w.heap.size + 3, 1, none⟩) (by show w.heap.size + 1 ≠ w.heap.size + 3; omega) (.int .u64 (y2 : Int))).far (p := ⟨w.heap.size + 2, 0, none⟩) (by show w.heap.size + 1 ≠ w.heap.size + 2; omega) (.int .u64 (x : Int))).far (p := ⟨w.heap.size + 2, 1, none⟩) (by show w.heap.size + 1 ≠ w.heap.size + 2; omega) (.int .u64 (y2 : Int))).far (p := ⟨w.heap.size + 2, 2, none⟩) (by show w.heap.size + 1 ≠ w.heap.size + 2; omega) (.slice none 0 0)).put 0 (.int .u64 (x : Int))).put 1 (.int .u64 (y2 : Int))).put 2 (.slice none 0 0)).put 3 (.bool false))
    have r1 := r0.keeps ((Keeps.refl (fun _ => False) _).drew) (fun h => h)
    have hld := run_loadVar_row (P := Tryd.prog) _ (w.heap.size + 1) 34 34 _ (0, 0) _ r1 Tryd.underlying34 rfl infoGot
    have k5 := (((((((((((Keeps.refl (fun i => w.heap.size ≤ i ∧ i < ((((w.alloc (.cells #[.int .i64 13, .int .u64 u, .int .u64 v, .slice S n c] 28)).alloc (.cells #[.int .u64 0, .int .u64 0, .slice none 0 0, .bool false] 34)).alloc (.cells #[.int .u64 0, .int .u64 0, .slice none 0 0, .bool false] 34)).alloc (.cells #[.int .u64 0, .int .u64 0] 114)).heap.size) w4).setCell (p := ⟨w.heap.size + 3, 0, none⟩) (.inl ⟨by show w.heap.size ≤ w.heap.size + 3; omega, by rw [HSZ.out]; show w.heap.size + 3 < _; omega⟩) (.int .u64 (x : Int))).setCell (p := ⟨w.heap.size + 3, 1, none⟩) (.inl ⟨by show w.heap.size ≤ w.heap.size + 3; omega, by rw [HSZ.out]; show w.heap.size + 3 < _; omega⟩) (.int .u64 (y2 : Int))).setCell (p := ⟨w.heap.size + 2, 0, none⟩) (.inl ⟨by show w.heap.size ≤ w.heap.size + 2; omega, by rw [HSZ.out]; show w.heap.size + 2 < _; omega⟩) (.int .u64 (x : Int))).setCell (p := ⟨w.heap.size + 2, 1, none⟩) (.inl ⟨by show w.heap.size ≤ w.heap.size + 2; omega, by rw [HSZ.out]; show w.heap.size + 2 < _; omega⟩) (.int .u64 (y2 : Int))).setCell (p := ⟨w.heap.size + 2, 2, none⟩) (.inl ⟨by show w.heap.size ≤ w.heap.size + 2; omega, by rw [HSZ.out]; show w.heap.size + 2 < _; omega⟩) (.slice none 0 0)).setCell (p := ⟨w.heap.size + 1, 0, none⟩) (.inl ⟨by show w.heap.size ≤ w.heap.size + 1; omega, by rw [HSZ.out]; show w.heap.size + 1 < _; omega⟩) (.int .u64 (x : Int))).setCell (p := ⟨w.heap.size + 1, 1, none⟩) (.inl ⟨by show w.heap.size ≤ w.heap.size + 1; omega, by rw [HSZ.out]; show w.heap.size + 1 < _; omega⟩) (.int .u64 (y2 : Int))).setCell (p := ⟨w.heap.size + 1, 2, none⟩) (.inl ⟨by show w.heap.size ≤ w.heap.size + 1; omega, by rw [HSZ.out]; show w.heap.size + 1 < _; omega⟩) (.slice none 0 0)).setCell (p := ⟨w.heap.size + 1, 3, none⟩) (.inl ⟨by show w.heap.size ≤ w.heap.size + 1; omega, by rw [HSZ.out]; show w.heap.size + 1 < _; omega⟩) (.bool false))).drew
    have hfin := go_put HR.out HK4.out hgo k5 HD.out
    exact bodyPost_ret (results_cell1 rfl _ ⟨w.heap.size + 1, 0, none⟩ _ _ rfl hld) rfl (by rw [HM.out]; exact get_done hfin)
  · have HM := Lib.hid (show wideM d = none by
      unfold fixW at ho
      split at ho
      · rename_i hd
        rw [wideM, if_pos hd]
      · cases ho)
    clear ho
    have h1 := HG1.out.keeps hgo.keeps (HN.out _ (.inl rfl))
    have h2 := HG2.out.keeps hgo.keeps (HN.out _ (.inr (.inl rfl)))
    have hne : w.heap.size + 1 ≠ w.heap.size + 2 := by omega
    have a0 : w4.cell? ⟨w.heap.size + 2, 0, none⟩ = some (.int .u64 0) := h2.cell 0
    have a1 : w4.cell? ⟨w.heap.size + 2, 1, none⟩ = some (.int .u64 0) := h2.cell 1
    have a2 : w4.cell? ⟨w.heap.size + 2, 2, none⟩ = some (.slice none 0 0) := h2.cell 2
    have a3 : w4.cell? ⟨w.heap.size + 2, 3, none⟩ = some (.bool false) := h2.cell 3
    have b0 : w4.cell? ⟨w.heap.size + 1, 0, none⟩ = some (.int .u64 0) := h1.cell 0
    have b1 : w4.cell? ⟨w.heap.size + 1, 1, none⟩ = some (.int .u64 0) := h1.cell 1
    have b2 : w4.cell? ⟨w.heap.size + 1, 2, none⟩ = some (.slice none 0 0) := h1.cell 2
    have b3 : w4.cell? ⟨w.heap.size + 1, 3, none⟩ = some (.bool false) := h1.cell 3
    have z20 : w4.frozen? ⟨w.heap.size + 2, 0, none⟩ = false := h2.frozen 0
    have z21 : w4.frozen? ⟨w.heap.size + 2, 1, none⟩ = false := h2.frozen 1
    have z22 : w4.frozen? ⟨w.heap.size + 2, 2, none⟩ = false := h2.frozen 2
    have z10 : w4.frozen? ⟨w.heap.size + 1, 0, none⟩ = false := h1.frozen 0
    have z11 : w4.frozen? ⟨w.heap.size + 1, 1, none⟩ = false := h1.frozen 1
    have z12 : w4.frozen? ⟨w.heap.size + 1, 2, none⟩ = false := h1.frozen 2
    have z13 : w4.frozen? ⟨w.heap.size + 1, 3, none⟩ = false := h1.frozen 3
    have hl1 := h1.lt
    have hl2 := h2.lt
    have h3 := HG3.out.keeps hgo.keeps (HN.out _ (.inr (.inr (.inl rfl))))
    have hne13 : w.heap.size + 1 ≠ w.heap.size + 3 := by omega
    have hne23 : w.heap.size + 2 ≠ w.heap.size + 3 := by omega
    have g0 : w4.cell? ⟨w.heap.size + 3, 0, none⟩ = some (.int .u64 0) := h3.cell 0
    have g1 : w4.cell? ⟨w.heap.size + 3, 1, none⟩ = some (.int .u64 0) := h3.cell 1
    have z30 : w4.frozen? ⟨w.heap.size + 3, 0, none⟩ = false := h3.frozen 0
    have z31 : w4.frozen? ⟨w.heap.size + 3, 1, none⟩ = false := h3.frozen 1
    have hl3 := h3.lt
    have hw5 := (h3.put 0 (.int .u64 0)).put 1 (.int .u64 0)
    have hs0 : (fun w' => w'.cell? ⟨w.heap.size + 3, 0, none⟩ = some (.int .u64 0) ∧ w'.cell? ⟨w.heap.size + 3, 1, none⟩ = some (.int .u64 0)) ((w4.setCell ⟨w.heap.size + 3, 0, none⟩ (.int .u64 0)).setCell ⟨w.heap.size + 3, 1, none⟩ (.int .u64 0)).drew := ⟨(hw5.keeps ((Keeps.refl (fun _ => False) _).drew) (fun h => h)).cell 0, (hw5.keeps ((Keeps.refl (fun _ => False) _).drew) (fun h => h)).cell 1⟩
    have hw6 := hw5.far (p := ⟨w.heap.size + 2, 0, none⟩) (by show w.heap.size + 3 ≠ w.heap.size + 2; omega) (.int .u64 0)
    have hs1 : (fun w' => w'.cell? ⟨w.heap.size + 3, 0, none⟩ = some (.int .u64 0) ∧ w'.cell? ⟨w.heap.size + 3, 1, none⟩ = some (.int .u64 0)) (((w4.setCell ⟨w.heap.size + 3, 0, none⟩ (.int .u64 0)).setCell ⟨w.heap.size + 3, 1, none⟩ (.int .u64 0)).setCell ⟨w.heap.size + 2, 0, none⟩ (.int .u64 0)).drew := ⟨(hw6.keeps ((Keeps.refl (fun _ => False) _).drew) (fun h => h)).cell 0, (hw6.keeps ((Keeps.refl (fun _ => False) _).drew) (fun h => h)).cell 1⟩
    have hw7 := hw6.far (p := ⟨w.heap.size + 2, 1, none⟩) (by show w.heap.size + 3 ≠ w.heap.size + 2; omega) (.int .u64 0)
    have hs2 : (fun w' => w'.cell? ⟨w.heap.size + 3, 0, none⟩ = some (.int .u64 0) ∧ w'.cell? ⟨w.heap.size + 3, 1, none⟩ = some (.int .u64 0)) ((((w4.setCell ⟨w.heap.size + 3, 0, none⟩ (.int .u64 0)).setCell ⟨w.heap.size + 3, 1, none⟩ (.int .u64 0)).setCell ⟨w.heap.size + 2, 0, none⟩ (.int .u64 0)).setCell ⟨w.heap.size + 2, 1, none⟩ (.int .u64 0)).drew := ⟨(hw7.keeps ((Keeps.refl (fun _ => False) _).drew) (fun h => h)).cell 0, (hw7.keeps ((Keeps.refl (fun _ => False) _).drew) (fun h => h)).cell 1⟩
    go_wp2_with fail
    simp only [show w.heap.size + 1 + 1 + 1 = w.heap.size + 3 from rfl, show w.heap.size + 1 + 1 = w.heap.size + 2 from rfl]
    go_region_held3 (fun w' => w'.cell? ⟨w.heap.size + 3, 0, none⟩ = some (.int .u64 0) ∧ w'.cell? ⟨w.heap.size + 3, 1, none⟩ = some (.int .u64 0)) (with_reducible first | exact hs0 | exact hs1 | exact hs2) (fail)
    all_goals (go_wp2_with fail)
    have r0 := ((((((((h1.far (p := ⟨w.heap.size + 3, 0, none⟩) (by show w.heap.size + 1 ≠ w.heap.size + 3; omega) (.int .u64 0)).far (p := ⟨w.heap.size + 3, 1, none⟩) (by show w.heap.size + 1 ≠ w.heap.size + 3; omega) (.int .u64 0)).far (p := ⟨w.heap.size + 2, 0, none⟩) (by show w.heap.size + 1 ≠ w.heap.size + 2; omega) (.int .u64 0)).far (p := ⟨w.heap.size + 2, 1, none⟩) (by show w.heap.size + 1 ≠ w.heap.size + 2; omega) (.int .u64 0)).put 0 (.int .u64 0)).put 1 (.int .u64 0)).put 2 (.slice none 0 0)).put 3 (.bool true))
    have r1 := r0.keeps ((Keeps.refl (fun _ => False) _).drew) (fun h => h)
    have hld := run_loadVar_row (P := Tryd.prog) _ (w.heap.size + 1) 34 34 _ (0, 0) _ r1 Tryd.underlying34 rfl infoGot
    have k5 := ((((((((((Keeps.refl (fun i => w.heap.size ≤ i ∧ i < ((((w.alloc (.cells #[.int .i64 13, .int .u64 u, .int .u64 v, .slice S n c] 28)).alloc (.cells #[.int .u64 0, .int .u64 0, .slice none 0 0, .bool false] 34)).alloc (.cells #[.int .u64 0, .int .u64 0, .slice none 0 0, .bool false] 34)).alloc (.cells #[.int .u64 0, .int .u64 0] 114)).heap.size) w4).setCell (p := ⟨w.heap.size + 3, 0, none⟩) (.inl ⟨by show w.heap.size ≤ w.heap.size + 3; omega, by rw [HSZ.out]; show w.heap.size + 3 < _; omega⟩) (.int .u64 0)).setCell (p := ⟨w.heap.size + 3, 1, none⟩) (.inl ⟨by show w.heap.size ≤ w.heap.size + 3; omega, by rw [HSZ.out]; show w.heap.size + 3 < _; omega⟩) (.int .u64 0)).setCell (p := ⟨w.heap.size + 2, 0, none⟩) (.inl ⟨by show w.heap.size ≤ w.heap.size + 2; omega, by rw [HSZ.out]; show w.heap.size + 2 < _; omega⟩) (.int .u64 0)).setCell (p := ⟨w.heap.size + 2, 1, none⟩) (.inl ⟨by show w.heap.size ≤ w.heap.size + 2; omega, by rw [HSZ.out]; show w.heap.size + 2 < _; omega⟩) (.int .u64 0)).setCell (p := ⟨w.heap.size + 1, 0, none⟩) (.inl ⟨by show w.heap.size ≤ w.heap.size + 1; omega, by rw [HSZ.out]; show w.heap.size + 1 < _; omega⟩) (.int .u64 0)).setCell (p := ⟨w.heap.size + 1, 1, none⟩) (.inl ⟨by show w.heap.size ≤ w.heap.size + 1; omega, by rw [HSZ.out]; show w.heap.size + 1 < _; omega⟩) (.int .u64 0)).setCell (p := ⟨w.heap.size + 1, 2, none⟩) (.inl ⟨by show w.heap.size ≤ w.heap.size + 1; omega, by rw [HSZ.out]; show w.heap.size + 1 < _; omega⟩) (.slice none 0 0)).setCell (p := ⟨w.heap.size + 1, 3, none⟩) (.inl ⟨by show w.heap.size ≤ w.heap.size + 1; omega, by rw [HSZ.out]; show w.heap.size + 1 < _; omega⟩) (.bool true))).drew
    have hfin := go_put HR.out HK4.out hgo k5 HD.out
    exact bodyPost_ret (results_cell1 rfl _ ⟨w.heap.size + 1, 0, none⟩ _ _ rfl hld) rfl (.inr ⟨l, HM.out, rfl, hfin⟩)
set_option maxRecDepth 100000 in
set_option maxHeartbeats 4000000 in
theorem mr14 (w : World) (base rb bb : Nat) (D R : Option Nat) (d : List UInt8) (hR : RdrOn w base rb bb D R d) (hD : ∀ i, D = some i → i < w.heap.size) (u v : Int) (S : Option Addr) (n c : Nat) : Calls Tryd.prog 47 #[.agg #[.int .i64 14, .int .u64 u, .int .u64 v, .slice S n c], .pointer (some ⟨rb, 0, none⟩)] w (GetOk w base rb bb D R (wideM d)) := by
  obtain ⟨K0, hp0, hg1, hg2⟩ := start3 w 28 34 #[.int .i64 14, .int .u64 u, .int .u64 v, .slice S n c] #[.int .u64 0, .int .u64 0, .slice none 0 0, .bool false] #[.int .u64 0, .int .u64 0, .slice none 0 0, .bool false]
  have HK0 := Lib.hid K0
  have HP0 := Lib.hid hp0
  have HG1 := Lib.hid hg1
  have HG2 := Lib.hid hg2
  have HR := Lib.hid hR
  have HN := Lib.hid (own_new hR)
  have HD := Lib.hid hD
  have HAP := appNil
  have K4 := K0.alloc (.cells #[.int .u64 0, .int .u64 0] 116)
  have HK4 := Lib.hid K4
  have HG1 := Lib.hid (hg1.alloc (.cells #[.int .u64 0, .int .u64 0] 116))
  have HG2 := Lib.hid (hg2.alloc (.cells #[.int .u64 0, .int .u64 0] 116))
  have hg3 := Whole.new (((w.alloc (.cells #[.int .i64 14, .int .u64 u, .int .u64 v, .slice S n c] 28)).alloc (.cells #[.int .u64 0, .int .u64 0, .slice none 0 0, .bool false] 34)).alloc (.cells #[.int .u64 0, .int .u64 0, .slice none 0 0, .bool false] 34)) 116 #[.int .u64 0, .int .u64 0]
  rw [size3] at hg3
  have HG3 := Lib.hid hg3
  have HU := Lib.hid (rwUInt128 _ base rb bb D R d (hR.new K4) (fun i hi => Nat.lt_of_lt_of_le (hD i hi) K4.size))
  have HSZ := Lib.hid (show ((((w.alloc (.cells #[.int .i64 14, .int .u64 u, .int .u64 v, .slice S n c] 28)).alloc (.cells #[.int .u64 0, .int .u64 0, .slice none 0 0, .bool false] 34)).alloc (.cells #[.int .u64 0, .int .u64 0, .slice none 0 0, .bool false] 34)).alloc (.cells #[.int .u64 0, .int .u64 0] 116)).heap.size = w.heap.size + 4 by rw [World.size_alloc, size3])
  clear hR K0 K4 hp0 hg1 hg2 hg3 hD
  go_enter Tryd.func47, Tryd.ntmps47
  go_wp2_with fail
  refine HU.out.mono ?_
  rintro e w4 (⟨y, l, ho, rfl, hgo⟩ | ⟨x, l, ho, rfl, ⟨a, rfl⟩, hgo⟩)
  · obtain ⟨x, y2, hv, hM⟩ : ∃ x y2 : Nat, y = .agg #[.int .u64 (x : Int), .int .u64 (y2 : Int)] ∧ wideM d = some (x, y2, [], l) := by
      unfold fixW at ho
      split at ho
      · cases ho
      · rename_i hd
        injection ho with ho
        injection ho with h1 h2
        exact ⟨_, _, h1.symm, by rw [wideM, if_neg hd, h2]⟩
    subst hv
    have HM := Lib.hid hM
    clear ho hM
    have h1 := HG1.out.keeps hgo.keeps (HN.out _ (.inl rfl))
    have h2 := HG2.out.keeps hgo.keeps (HN.out _ (.inr (.inl rfl)))
    have hne : w.heap.size + 1 ≠ w.heap.size + 2 := by omega
    have a0 : w4.cell? ⟨w.heap.size + 2, 0, none⟩ = some (.int .u64 0) := h2.cell 0
    have a1 : w4.cell? ⟨w.heap.size + 2, 1, none⟩ = some (.int .u64 0) := h2.cell 1
    have a2 : w4.cell? ⟨w.heap.size + 2, 2, none⟩ = some (.slice none 0 0) := h2.cell 2
    have a3 : w4.cell? ⟨w.heap.size + 2, 3, none⟩ = some (.bool false) := h2.cell 3
    have b0 : w4.cell? ⟨w.heap.size + 1, 0, none⟩ = some (.int .u64 0) := h1.cell 0
    have b1 : w4.cell? ⟨w.heap.size + 1, 1, none⟩ = some (.int .u64 0) := h1.cell 1
    have b2 : w4.cell? ⟨w.heap.size + 1, 2, none⟩ = some (.slice none 0 0) := h1.cell 2
    have b3 : w4.cell? ⟨w.heap.size + 1, 3, none⟩ = some (.bool false) := h1.cell 3
    have z20 : w4.frozen? ⟨w.heap.size + 2, 0, none⟩ = false := h2.frozen 0
    have z21 : w4.frozen? ⟨w.heap.size + 2, 1, none⟩ = false := h2.frozen 1
    have z22 : w4.frozen? ⟨w.heap.size + 2, 2, none⟩ = false := h2.frozen 2
    have z10 : w4.frozen? ⟨w.heap.size + 1, 0, none⟩ = false := h1.frozen 0
    have z11 : w4.frozen? ⟨w.heap.size + 1, 1, none⟩ = false := h1.frozen 1
    have z12 : w4.frozen? ⟨w.heap.size + 1, 2, none⟩ = false := h1.frozen 2
    have z13 : w4.frozen? ⟨w.heap.size + 1, 3, none⟩ = false := h1.frozen 3
    have hl1 := h1.lt
    have hl2 := h2.lt
    have h3 := HG3.out.keeps hgo.keeps (HN.out _ (.inr (.inr (.inl rfl))))
    have hne13 : w.heap.size + 1 ≠ w.heap.size + 3 := by omega
    have hne23 : w.heap.size + 2 ≠ w.heap.size + 3 := by omega
    have g0 : w4.cell? ⟨w.heap.size + 3, 0, none⟩ = some (.int .u64 0) := h3.cell 0
    have g1 : w4.cell? ⟨w.heap.size + 3, 1, none⟩ = some (.int .u64 0) := h3.cell 1
    have z30 : w4.frozen? ⟨w.heap.size + 3, 0, none⟩ = false := h3.frozen 0
    have z31 : w4.frozen? ⟨w.heap.size + 3, 1, none⟩ = false := h3.frozen 1
    have hl3 := h3.lt
    have hw5 := (h3.put 0 (.int .u64 (x : Int))).put 1 (.int .u64 (y2 : Int))
    have hs0 : (fun w' => w'.cell? ⟨w.heap.size + 3, 0, none⟩ = some (.int .u64 (x : Int)) ∧ w'.cell? ⟨w.heap.size + 3, 1, none⟩ = some (.int .u64 (y2 : Int))) ((w4.setCell ⟨w.heap.size + 3, 0, none⟩ (.int .u64 (x : Int))).setCell ⟨w.heap.size + 3, 1, none⟩ (.int .u64 (y2 : Int))).drew := ⟨(hw5.keeps ((Keeps.refl (fun _ => False) _).drew) (fun h => h)).cell 0, (hw5.keeps ((Keeps.refl (fun _ => False) _).drew) (fun h => h)).cell 1⟩
    have hw6 := hw5.far (p := ⟨w.heap.size + 2, 0, none⟩) (by show w.heap.size + 3 ≠ w.heap.size + 2; omega) (.int .u64 (x : Int))
    have hs1 : (fun w' => w'.cell? ⟨w.heap.size + 3, 0, none⟩ = some (.int .u64 (x : Int)) ∧ w'.cell? ⟨w.heap.size + 3, 1, none⟩ = some (.int .u64 (y2 : Int))) (((w4.setCell ⟨w.heap.size + 3, 0, none⟩ (.int .u64 (x : Int))).setCell ⟨w.heap.size + 3, 1, none⟩ (.int .u64 (y2 : Int))).setCell ⟨w.heap.size + 2, 0, none⟩ (.int .u64 (x : Int))).drew := ⟨(hw6.keeps ((Keeps.refl (fun _ => False) _).drew) (fun h => h)).cell 0, (hw6.keeps ((Keeps.refl (fun _ => False) _).drew) (fun h => h)).cell 1⟩
    have hw7 := hw6.far (p := ⟨w.heap.size + 2, 1, none⟩) (by show w.heap.size + 3 ≠ w.heap.size + 2; omega) (.int .u64 (y2 : Int))
    have hs2 : (fun w' => w'.cell? ⟨w.heap.size + 3, 0, none⟩ = some (.int .u64 (x : Int)) ∧ w'.cell? ⟨w.heap.size + 3, 1, none⟩ = some (.int .u64 (y2 : Int))) ((((w4.setCell ⟨w.heap.size + 3, 0, none⟩ (.int .u64 (x : Int))).setCell ⟨w.heap.size + 3, 1, none⟩ (.int .u64 (y2 : Int))).setCell ⟨w.heap.size + 2, 0, none⟩ (.int .u64 (x : Int))).setCell ⟨w.heap.size + 2, 1, none⟩ (.int .u64 (y2 : Int))).drew := ⟨(hw7.keeps ((Keeps.refl (fun _ => False) _).drew) (fun h => h)).cell 0, (hw7.keeps ((Keeps.refl (fun _ => False) _).drew) (fun h => h)).cell 1⟩
    go_wp2_with fail
    simp only [show w.heap.size + 1 + 1 + 1 = w.heap.size + 3 from rfl, show w.heap.size + 1 + 1 = w.heap.size + 2 from rfl]
    go_region_held3 (fun w' => w'.cell? ⟨w.heap.size + 3, 0, none⟩ = some (.int .u64 (x : Int)) ∧ w'.cell? ⟨w.heap.size + 3, 1, none⟩ = some (.int .u64 (y2 : Int))) (with_reducible first | exact hs0 | exact hs1 | exact hs2) (fail)
    all_goals (go_wp2_with fail)
    have r0 := (((((((((h1.far (p := ⟨w.heap.size + 3, 0, none⟩) (by show w.heap.size + 1 ≠ w.heap.size + 3; omega) (.int .u64 (x : Int))).far (p := ⟨w.heap.size + 3, 1, none⟩) (by show w.heap.size + 1 ≠ w.heap.size + 3; omega) (.int .u64 (y2 : Int))).far (p := ⟨w.heap.size + 2, 0, none⟩) (by show w.heap.size + 1 ≠ w.heap.size + 2; omega) (.int .u64 (x : Int))).far (p := ⟨w.heap.size + 2, 1, none⟩) (by show w.heap.size + 1 ≠ w.heap.size + 2; omega) (.int .u64 (y2 : Int))).far (p := ⟨w.heap.size + 2, 2, none⟩) (by show w.heap.size + 1 ≠ w.heap.size + 2; omega) (.slice none 0 0)).put 0 (.int .u64 (x : Int))).put 1 (.int .u64 (y2 : Int))).put 2 (.slice none 0 0)).put 3 (.bool false))
    have r1 := r0.keeps ((Keeps.refl (fun _ => False) _).drew) (fun h => h)
    have hld := run_loadVar_row (P := Tryd.prog) _ (w.heap.size + 1) 34 34 _ (0, 0) _ r1 Tryd.underlying34 rfl infoGot
    have k5 := (((((((((((Keeps.refl (fun i => w.heap.size ≤ i ∧ i < ((((w.alloc (.cells #[.int .i64 14, .int .u64 u, .int .u64 v, .slice S n c] 28)).alloc (.cells #[.int .u64 0, .int .u64 0, .slice none 0 0, .bool false] 34)).alloc (.cells #[.int .u64 0, .int .u64 0, .slice none 0 0, .bool false] 34)).alloc (.cells #[.int .u64 0, .int .u64 0] 116)).heap.size) w4).setCell (p := ⟨w.heap.size + 3, 0, none⟩) (.inl ⟨by show w.heap.size ≤ w.heap.size + 3; omega, by rw [HSZ.out]; show w.heap.size + 3 < _; omega⟩) (.int .u64 (x : Int))).setCell (p := ⟨w.heap.size + 3, 1, none⟩) (.inl ⟨by show w.heap.size ≤ w.heap.size + 3; omega, by rw [HSZ.out]; show w.heap.size + 3 < _; omega⟩) (.int .u64 (y2 : Int))).setCell (p := ⟨w.heap.size + 2, 0, none⟩) (.inl ⟨by show w.heap.size ≤ w.heap.size + 2; omega, by rw [HSZ.out]; show w.heap.size + 2 < _; omega⟩) (.int .u64 (x : Int))).setCell (p := ⟨w.heap.size + 2, 1, none⟩) (.inl ⟨by show w.heap.size ≤ w.heap.size + 2; omega, by rw [HSZ.out]; show w.heap.size + 2 < _; omega⟩) (.int .u64 (y2 : Int))).setCell (p := ⟨w.heap.size + 2, 2, none⟩) (.inl ⟨by show w.heap.size ≤ w.heap.size + 2; omega, by rw [HSZ.out]; show w.heap.size + 2 < _; omega⟩) (.slice none 0 0)).setCell (p := ⟨w.heap.size + 1, 0, none⟩) (.inl ⟨by show w.heap.size ≤ w.heap.size + 1; omega, by rw [HSZ.out]; show w.heap.size + 1 < _; omega⟩) (.int .u64 (x : Int))).setCell (p := ⟨w.heap.size + 1, 1, none⟩) (.inl ⟨by show w.heap.size ≤ w.heap.size + 1; omega, by rw [HSZ.out]; show w.heap.size + 1 < _; omega⟩) (.int .u64 (y2 : Int))).setCell (p := ⟨w.heap.size + 1, 2, none⟩) (.inl ⟨by show w.heap.size ≤ w.heap.size + 1; omega, by rw [HSZ.out]; show w.heap.size + 1 < _; omega⟩) (.slice none 0 0)).setCell (p := ⟨w.heap.size + 1, 3, none⟩) (.inl ⟨by show w.heap.size ≤ w.heap.size + 1; omega, by rw [HSZ.out]; show w.heap.size + 1 < _; omega⟩) (.bool false))).drew
    have hfin := go_put HR.out HK4.out hgo k5 HD.out
    exact bodyPost_ret (results_cell1 rfl _ ⟨w.heap.size + 1, 0, none⟩ _ _ rfl hld) rfl (by rw [HM.out]; exact get_done hfin)
  · have HM := Lib.hid (show wideM d = none by
      unfold fixW at ho
      split at ho
      · rename_i hd
        rw [wideM, if_pos hd]
      · cases ho)
    clear ho
    have h1 := HG1.out.keeps hgo.keeps (HN.out _ (.inl rfl))
    have h2 := HG2.out.keeps hgo.keeps (HN.out _ (.inr (.inl rfl)))
    have hne : w.heap.size + 1 ≠ w.heap.size + 2 := by omega
    have a0 : w4.cell? ⟨w.heap.size + 2, 0, none⟩ = some (.int .u64 0) := h2.cell 0
    have a1 : w4.cell? ⟨w.heap.size + 2, 1, none⟩ = some (.int .u64 0) := h2.cell 1
    have a2 : w4.cell? ⟨w.heap.size + 2, 2, none⟩ = some (.slice none 0 0) := h2.cell 2
    have a3 : w4.cell? ⟨w.heap.size + 2, 3, none⟩ = some (.bool false) := h2.cell 3
    have b0 : w4.cell? ⟨w.heap.size + 1, 0, none⟩ = some (.int .u64 0) := h1.cell 0
    have b1 : w4.cell? ⟨w.heap.size + 1, 1, none⟩ = some (.int .u64 0) := h1.cell 1
    have b2 : w4.cell? ⟨w.heap.size + 1, 2, none⟩ = some (.slice none 0 0) := h1.cell 2
    have b3 : w4.cell? ⟨w.heap.size + 1, 3, none⟩ = some (.bool false) := h1.cell 3
    have z20 : w4.frozen? ⟨w.heap.size + 2, 0, none⟩ = false := h2.frozen 0
    have z21 : w4.frozen? ⟨w.heap.size + 2, 1, none⟩ = false := h2.frozen 1
    have z22 : w4.frozen? ⟨w.heap.size + 2, 2, none⟩ = false := h2.frozen 2
    have z10 : w4.frozen? ⟨w.heap.size + 1, 0, none⟩ = false := h1.frozen 0
    have z11 : w4.frozen? ⟨w.heap.size + 1, 1, none⟩ = false := h1.frozen 1
    have z12 : w4.frozen? ⟨w.heap.size + 1, 2, none⟩ = false := h1.frozen 2
    have z13 : w4.frozen? ⟨w.heap.size + 1, 3, none⟩ = false := h1.frozen 3
    have hl1 := h1.lt
    have hl2 := h2.lt
    have h3 := HG3.out.keeps hgo.keeps (HN.out _ (.inr (.inr (.inl rfl))))
    have hne13 : w.heap.size + 1 ≠ w.heap.size + 3 := by omega
    have hne23 : w.heap.size + 2 ≠ w.heap.size + 3 := by omega
    have g0 : w4.cell? ⟨w.heap.size + 3, 0, none⟩ = some (.int .u64 0) := h3.cell 0
    have g1 : w4.cell? ⟨w.heap.size + 3, 1, none⟩ = some (.int .u64 0) := h3.cell 1
    have z30 : w4.frozen? ⟨w.heap.size + 3, 0, none⟩ = false := h3.frozen 0
    have z31 : w4.frozen? ⟨w.heap.size + 3, 1, none⟩ = false := h3.frozen 1
    have hl3 := h3.lt
    have hw5 := (h3.put 0 (.int .u64 0)).put 1 (.int .u64 0)
    have hs0 : (fun w' => w'.cell? ⟨w.heap.size + 3, 0, none⟩ = some (.int .u64 0) ∧ w'.cell? ⟨w.heap.size + 3, 1, none⟩ = some (.int .u64 0)) ((w4.setCell ⟨w.heap.size + 3, 0, none⟩ (.int .u64 0)).setCell ⟨w.heap.size + 3, 1, none⟩ (.int .u64 0)).drew := ⟨(hw5.keeps ((Keeps.refl (fun _ => False) _).drew) (fun h => h)).cell 0, (hw5.keeps ((Keeps.refl (fun _ => False) _).drew) (fun h => h)).cell 1⟩
    have hw6 := hw5.far (p := ⟨w.heap.size + 2, 0, none⟩) (by show w.heap.size + 3 ≠ w.heap.size + 2; omega) (.int .u64 0)
    have hs1 : (fun w' => w'.cell? ⟨w.heap.size + 3, 0, none⟩ = some (.int .u64 0) ∧ w'.cell? ⟨w.heap.size + 3, 1, none⟩ = some (.int .u64 0)) (((w4.setCell ⟨w.heap.size + 3, 0, none⟩ (.int .u64 0)).setCell ⟨w.heap.size + 3, 1, none⟩ (.int .u64 0)).setCell ⟨w.heap.size + 2, 0, none⟩ (.int .u64 0)).drew := ⟨(hw6.keeps ((Keeps.refl (fun _ => False) _).drew) (fun h => h)).cell 0, (hw6.keeps ((Keeps.refl (fun _ => False) _).drew) (fun h => h)).cell 1⟩
    have hw7 := hw6.far (p := ⟨w.heap.size + 2, 1, none⟩) (by show w.heap.size + 3 ≠ w.heap.size + 2; omega) (.int .u64 0)
    have hs2 : (fun w' => w'.cell? ⟨w.heap.size + 3, 0, none⟩ = some (.int .u64 0) ∧ w'.cell? ⟨w.heap.size + 3, 1, none⟩ = some (.int .u64 0)) ((((w4.setCell ⟨w.heap.size + 3, 0, none⟩ (.int .u64 0)).setCell ⟨w.heap.size + 3, 1, none⟩ (.int .u64 0)).setCell ⟨w.heap.size + 2, 0, none⟩ (.int .u64 0)).setCell ⟨w.heap.size + 2, 1, none⟩ (.int .u64 0)).drew := ⟨(hw7.keeps ((Keeps.refl (fun _ => False) _).drew) (fun h => h)).cell 0, (hw7.keeps ((Keeps.refl (fun _ => False) _).drew) (fun h => h)).cell 1⟩
    go_wp2_with fail
    simp only [show w.heap.size + 1 + 1 + 1 = w.heap.size + 3 from rfl, show w.heap.size + 1 + 1 = w.heap.size + 2 from rfl]
    go_region_held3 (fun w' => w'.cell? ⟨w.heap.size + 3, 0, none⟩ = some (.int .u64 0) ∧ w'.cell? ⟨w.heap.size + 3, 1, none⟩ = some (.int .u64 0)) (with_reducible first | exact hs0 | exact hs1 | exact hs2) (fail)
    all_goals (go_wp2_with fail)
    have r0 := ((((((((h1.far (p := ⟨w.heap.size + 3, 0, none⟩) (by show w.heap.size + 1 ≠ w.heap.size + 3; omega) (.int .u64 0)).far (p := ⟨w.heap.size + 3, 1, none⟩) (by show w.heap.size + 1 ≠ w.heap.size + 3; omega) (.int .u64 0)).far (p := ⟨w.heap.size + 2, 0, none⟩) (by show w.heap.size + 1 ≠ w.heap.size + 2; omega) (.int .u64 0)).far (p := ⟨w.heap.size + 2, 1, none⟩) (by show w.heap.size + 1 ≠ w.heap.size + 2; omega) (.int .u64 0)).put 0 (.int .u64 0)).put 1 (.int .u64 0)).put 2 (.slice none 0 0)).put 3 (.bool true))
    have r1 := r0.keeps ((Keeps.refl (fun _ => False) _).drew) (fun h => h)
    have hld := run_loadVar_row (P := Tryd.prog) _ (w.heap.size + 1) 34 34 _ (0, 0) _ r1 Tryd.underlying34 rfl infoGot
    have k5 := ((((((((((Keeps.refl (fun i => w.heap.size ≤ i ∧ i < ((((w.alloc (.cells #[.int .i64 14, .int .u64 u, .int .u64 v, .slice S n c] 28)).alloc (.cells #[.int .u64 0, .int .u64 0, .slice none 0 0, .bool false] 34)).alloc (.cells #[.int .u64 0, .int .u64 0, .slice none 0 0, .bool false] 34)).alloc (.cells #[.int .u64 0, .int .u64 0] 116)).heap.size) w4).setCell (p := ⟨w.heap.size + 3, 0, none⟩) (.inl ⟨by show w.heap.size ≤ w.heap.size + 3; omega, by rw [HSZ.out]; show w.heap.size + 3 < _; omega⟩) (.int .u64 0)).setCell (p := ⟨w.heap.size + 3, 1, none⟩) (.inl ⟨by show w.heap.size ≤ w.heap.size + 3; omega, by rw [HSZ.out]; show w.heap.size + 3 < _; omega⟩) (.int .u64 0)).setCell (p := ⟨w.heap.size + 2, 0, none⟩) (.inl ⟨by show w.heap.size ≤ w.heap.size + 2; omega, by rw [HSZ.out]; show w.heap.size + 2 < _; omega⟩) (.int .u64 0)).setCell (p := ⟨w.heap.size + 2, 1, none⟩) (.inl ⟨by show w.heap.size ≤ w.heap.size + 2; omega, by rw [HSZ.out]; show w.heap.size + 2 < _; omega⟩) (.int .u64 0)).setCell (p := ⟨w.heap.size + 1, 0, none⟩) (.inl ⟨by show w.heap.size ≤ w.heap.size + 1; omega, by rw [HSZ.out]; show w.heap.size + 1 < _; omega⟩) (.int .u64 0)).setCell (p := ⟨w.heap.size + 1, 1, none⟩) (.inl ⟨by show w.heap.size ≤ w.heap.size + 1; omega, by rw [HSZ.out]; show w.heap.size + 1 < _; omega⟩) (.int .u64 0)).setCell (p := ⟨w.heap.size + 1, 2, none⟩) (.inl ⟨by show w.heap.size ≤ w.heap.size + 1; omega, by rw [HSZ.out]; show w.heap.size + 1 < _; omega⟩) (.slice none 0 0)).setCell (p := ⟨w.heap.size + 1, 3, none⟩) (.inl ⟨by show w.heap.size ≤ w.heap.size + 1; omega, by rw [HSZ.out]; show w.heap.size + 1 < _; omega⟩) (.bool true))).drew
    have hfin := go_put HR.out HK4.out hgo k5 HD.out
    exact bodyPost_ret (results_cell1 rfl _ ⟨w.heap.size + 1, 0, none⟩ _ _ rfl hld) rfl (.inr ⟨l, HM.out, rfl, hfin⟩)
set_option maxRecDepth 100000 in
set_option maxHeartbeats 4000000 in
theorem mr15 (w : World) (base rb bb : Nat) (D R : Option Nat) (d : List UInt8) (hR : RdrOn w base rb bb D R d) (hD : ∀ i, D = some i → i < w.heap.size) (u v : Int) (S : Option Addr) (n c : Nat) : Calls Tryd.prog 47 #[.agg #[.int .i64 15, .int .u64 u, .int .u64 v, .slice S n c], .pointer (some ⟨rb, 0, none⟩)] w (GetOk w base rb bb D R (varM d)) := by
  obtain ⟨K0, hp0, hg1, hg2⟩ := start3 w 28 34 #[.int .i64 15, .int .u64 u, .int .u64 v, .slice S n c] #[.int .u64 0, .int .u64 0, .slice none 0 0, .bool false] #[.int .u64 0, .int .u64 0, .slice none 0 0, .bool false]
  have HK0 := Lib.hid K0
  have HP0 := Lib.hid hp0
  have HG1 := Lib.hid hg1
  have HG2 := Lib.hid hg2
  have HR := Lib.hid hR
  have HN := Lib.hid (own_new hR)
  have HD := Lib.hid hD
  have HAP := appNil
  have HU := Lib.hid (rwUVarInt _ base rb bb D R d (hR.new K0))
  have HSZ := Lib.hid (size3 w (.cells #[.int .i64 15, .int .u64 u, .int .u64 v, .slice S n c] 28) (.cells #[.int .u64 0, .int .u64 0, .slice none 0 0, .bool false] 34) (.cells #[.int .u64 0, .int .u64 0, .slice none 0 0, .bool false] 34))
  clear hR K0 hp0 hg1 hg2 hD
  go_enter Tryd.func47, Tryd.ntmps47
  go_wp2_with fail
  refine HU.out.mono ?_
  rintro e w4 (⟨y, l, ho, rfl, hgo⟩ | ⟨x, l, ho, rfl, ⟨a, rfl⟩, hgo⟩)
  · obtain ⟨⟨x, l2⟩, hu, h2⟩ := Option.map_eq_some_iff.mp ho
    injection h2 with h2 h3
    subst h2 h3
    have hM : varM d = some (x, 0, [], l2) := by rw [varM, hu]; rfl
    have HM := Lib.hid hM
    clear ho hM hu
    have h1 := HG1.out.keeps hgo.keeps (HN.out _ (.inl rfl))
    have h2 := HG2.out.keeps hgo.keeps (HN.out _ (.inr (.inl rfl)))
    have hne : w.heap.size + 1 ≠ w.heap.size + 2 := by omega
    have a0 : w4.cell? ⟨w.heap.size + 2, 0, none⟩ = some (.int .u64 0) := h2.cell 0
    have a1 : w4.cell? ⟨w.heap.size + 2, 1, none⟩ = some (.int .u64 0) := h2.cell 1
    have a2 : w4.cell? ⟨w.heap.size + 2, 2, none⟩ = some (.slice none 0 0) := h2.cell 2
    have a3 : w4.cell? ⟨w.heap.size + 2, 3, none⟩ = some (.bool false) := h2.cell 3
    have b0 : w4.cell? ⟨w.heap.size + 1, 0, none⟩ = some (.int .u64 0) := h1.cell 0
    have b1 : w4.cell? ⟨w.heap.size + 1, 1, none⟩ = some (.int .u64 0) := h1.cell 1
    have b2 : w4.cell? ⟨w.heap.size + 1, 2, none⟩ = some (.slice none 0 0) := h1.cell 2
    have b3 : w4.cell? ⟨w.heap.size + 1, 3, none⟩ = some (.bool false) := h1.cell 3
    have z20 : w4.frozen? ⟨w.heap.size + 2, 0, none⟩ = false := h2.frozen 0
    have z21 : w4.frozen? ⟨w.heap.size + 2, 1, none⟩ = false := h2.frozen 1
    have z22 : w4.frozen? ⟨w.heap.size + 2, 2, none⟩ = false := h2.frozen 2
    have z10 : w4.frozen? ⟨w.heap.size + 1, 0, none⟩ = false := h1.frozen 0
    have z11 : w4.frozen? ⟨w.heap.size + 1, 1, none⟩ = false := h1.frozen 1
    have z12 : w4.frozen? ⟨w.heap.size + 1, 2, none⟩ = false := h1.frozen 2
    have z13 : w4.frozen? ⟨w.heap.size + 1, 3, none⟩ = false := h1.frozen 3
    have hl1 := h1.lt
    have hl2 := h2.lt
    go_wp2_with fail
    have r1 := ((((((h1.far (p := ⟨w.heap.size + 2, 0, none⟩) (by show w.heap.size + 1 ≠ w.heap.size + 2; omega) (.int .u64 (x : Int))).far (p := ⟨w.heap.size + 2, 2, none⟩) (by show w.heap.size + 1 ≠ w.heap.size + 2; omega) (.slice none 0 0)).put 0 (.int .u64 (x : Int))).put 1 (.int .u64 0)).put 2 (.slice none 0 0)).put 3 (.bool false))
    have hld := run_loadVar_row (P := Tryd.prog) _ (w.heap.size + 1) 34 34 _ (0, 0) _ r1 Tryd.underlying34 rfl infoGot
    have k5 := (((((((Keeps.refl (fun i => w.heap.size ≤ i ∧ i < (((w.alloc (.cells #[.int .i64 15, .int .u64 u, .int .u64 v, .slice S n c] 28)).alloc (.cells #[.int .u64 0, .int .u64 0, .slice none 0 0, .bool false] 34)).alloc (.cells #[.int .u64 0, .int .u64 0, .slice none 0 0, .bool false] 34)).heap.size) w4).setCell (p := ⟨w.heap.size + 2, 0, none⟩) (.inl ⟨by show w.heap.size ≤ w.heap.size + 2; omega, by rw [HSZ.out]; show w.heap.size + 2 < _; omega⟩) (.int .u64 (x : Int))).setCell (p := ⟨w.heap.size + 2, 2, none⟩) (.inl ⟨by show w.heap.size ≤ w.heap.size + 2; omega, by rw [HSZ.out]; show w.heap.size + 2 < _; omega⟩) (.slice none 0 0)).setCell (p := ⟨w.heap.size + 1, 0, none⟩) (.inl ⟨by show w.heap.size ≤ w.heap.size + 1; omega, by rw [HSZ.out]; show w.heap.size + 1 < _; omega⟩) (.int .u64 (x : Int))).setCell (p := ⟨w.heap.size + 1, 1, none⟩) (.inl ⟨by show w.heap.size ≤ w.heap.size + 1; omega, by rw [HSZ.out]; show w.heap.size + 1 < _; omega⟩) (.int .u64 0)).setCell (p := ⟨w.heap.size + 1, 2, none⟩) (.inl ⟨by show w.heap.size ≤ w.heap.size + 1; omega, by rw [HSZ.out]; show w.heap.size + 1 < _; omega⟩) (.slice none 0 0)).setCell (p := ⟨w.heap.size + 1, 3, none⟩) (.inl ⟨by show w.heap.size ≤ w.heap.size + 1; omega, by rw [HSZ.out]; show w.heap.size + 1 < _; omega⟩) (.bool false))
    have hfin := go_put HR.out HK0.out hgo k5 HD.out
    exact bodyPost_ret (results_cell1 rfl _ ⟨w.heap.size + 1, 0, none⟩ _ _ rfl hld) rfl (by rw [HM.out]; exact get_done hfin)
  · have HM := Lib.hid (show varM d = none by rw [varM, Option.map_eq_none_iff.mp ho]; rfl)
    clear ho
    have h1 := HG1.out.keeps hgo.keeps (HN.out _ (.inl rfl))
    have h2 := HG2.out.keeps hgo.keeps (HN.out _ (.inr (.inl rfl)))
    have hne : w.heap.size + 1 ≠ w.heap.size + 2 := by omega
    have a0 : w4.cell? ⟨w.heap.size + 2, 0, none⟩ = some (.int .u64 0) := h2.cell 0
    have a1 : w4.cell? ⟨w.heap.size + 2, 1, none⟩ = some (.int .u64 0) := h2.cell 1
    have a2 : w4.cell? ⟨w.heap.size + 2, 2, none⟩ = some (.slice none 0 0) := h2.cell 2
    have a3 : w4.cell? ⟨w.heap.size + 2, 3, none⟩ = some (.bool false) := h2.cell 3
    have b0 : w4.cell? ⟨w.heap.size + 1, 0, none⟩ = some (.int .u64 0) := h1.cell 0
    have b1 : w4.cell? ⟨w.heap.size + 1, 1, none⟩ = some (.int .u64 0) := h1.cell 1
    have b2 : w4.cell? ⟨w.heap.size + 1, 2, none⟩ = some (.slice none 0 0) := h1.cell 2
    have b3 : w4.cell? ⟨w.heap.size + 1, 3, none⟩ = some (.bool false) := h1.cell 3
    have z20 : w4.frozen? ⟨w.heap.size + 2, 0, none⟩ = false := h2.frozen 0
    have z21 : w4.frozen? ⟨w.heap.size + 2, 1, none⟩ = false := h2.frozen 1
    have z22 : w4.frozen? ⟨w.heap.size + 2, 2, none⟩ = false := h2.frozen 2
    have z10 : w4.frozen? ⟨w.heap.size + 1, 0, none⟩ = false := h1.frozen 0
    have z11 : w4.frozen? ⟨w.heap.size + 1, 1, none⟩ = false := h1.frozen 1
    have z12 : w4.frozen? ⟨w.heap.size + 1, 2, none⟩ = false := h1.frozen 2
    have z13 : w4.frozen? ⟨w.heap.size + 1, 3, none⟩ = false := h1.frozen 3
    have hl1 := h1.lt
    have hl2 := h2.lt
    go_wp2_with fail
    have r1 := (((((h1.far (p := ⟨w.heap.size + 2, 0, none⟩) (by show w.heap.size + 1 ≠ w.heap.size + 2; omega) (.int .u64 0)).put 0 (.int .u64 0)).put 1 (.int .u64 0)).put 2 (.slice none 0 0)).put 3 (.bool true))
    have hld := run_loadVar_row (P := Tryd.prog) _ (w.heap.size + 1) 34 34 _ (0, 0) _ r1 Tryd.underlying34 rfl infoGot
    have k5 := ((((((Keeps.refl (fun i => w.heap.size ≤ i ∧ i < (((w.alloc (.cells #[.int .i64 15, .int .u64 u, .int .u64 v, .slice S n c] 28)).alloc (.cells #[.int .u64 0, .int .u64 0, .slice none 0 0, .bool false] 34)).alloc (.cells #[.int .u64 0, .int .u64 0, .slice none 0 0, .bool false] 34)).heap.size) w4).setCell (p := ⟨w.heap.size + 2, 0, none⟩) (.inl ⟨by show w.heap.size ≤ w.heap.size + 2; omega, by rw [HSZ.out]; show w.heap.size + 2 < _; omega⟩) (.int .u64 0)).setCell (p := ⟨w.heap.size + 1, 0, none⟩) (.inl ⟨by show w.heap.size ≤ w.heap.size + 1; omega, by rw [HSZ.out]; show w.heap.size + 1 < _; omega⟩) (.int .u64 0)).setCell (p := ⟨w.heap.size + 1, 1, none⟩) (.inl ⟨by show w.heap.size ≤ w.heap.size + 1; omega, by rw [HSZ.out]; show w.heap.size + 1 < _; omega⟩) (.int .u64 0)).setCell (p := ⟨w.heap.size + 1, 2, none⟩) (.inl ⟨by show w.heap.size ≤ w.heap.size + 1; omega, by rw [HSZ.out]; show w.heap.size + 1 < _; omega⟩) (.slice none 0 0)).setCell (p := ⟨w.heap.size + 1, 3, none⟩) (.inl ⟨by show w.heap.size ≤ w.heap.size + 1; omega, by rw [HSZ.out]; show w.heap.size + 1 < _; omega⟩) (.bool true))
    have hfin := go_put HR.out HK0.out hgo k5 HD.out
    exact bodyPost_ret (results_cell1 rfl _ ⟨w.heap.size + 1, 0, none⟩ _ _ rfl hld) rfl (.inr ⟨l, HM.out, rfl, hfin⟩)
set_option maxRecDepth 100000 in
set_option maxHeartbeats 4000000 in
theorem mr16 (w : World) (base rb bb : Nat) (D R : Option Nat) (d : List UInt8) (hR : RdrOn w base rb bb D R d) (hD : ∀ i, D = some i → i < w.heap.size) (u v : Int) (S : Option Addr) (n c : Nat) : Calls Tryd.prog 47 #[.agg #[.int .i64 16, .int .u64 u, .int .u64 v, .slice S n c], .pointer (some ⟨rb, 0, none⟩)] w (GetOk w base rb bb D R (varM d)) := by
  obtain ⟨K0, hp0, hg1, hg2⟩ := start3 w 28 34 #[.int .i64 16, .int .u64 u, .int .u64 v, .slice S n c] #[.int .u64 0, .int .u64 0, .slice none 0 0, .bool false] #[.int .u64 0, .int .u64 0, .slice none 0 0, .bool false]
  have HK0 := Lib.hid K0
  have HP0 := Lib.hid hp0
  have HG1 := Lib.hid hg1
  have HG2 := Lib.hid hg2
  have HR := Lib.hid hR
  have HN := Lib.hid (own_new hR)
  have HD := Lib.hid hD
  have HAP := appNil
  have HU := Lib.hid (rwInt _ base rb bb D R d (hR.new K0))
  have HSZ := Lib.hid (size3 w (.cells #[.int .i64 16, .int .u64 u, .int .u64 v, .slice S n c] 28) (.cells #[.int .u64 0, .int .u64 0, .slice none 0 0, .bool false] 34) (.cells #[.int .u64 0, .int .u64 0, .slice none 0 0, .bool false] 34))
  clear hR K0 hp0 hg1 hg2 hD
  go_enter Tryd.func47, Tryd.ntmps47
  go_wp2_with fail
  refine HU.out.mono ?_
  rintro e w4 (⟨y, l, ho, rfl, hgo⟩ | ⟨x, l, ho, rfl, ⟨a, rfl⟩, hgo⟩)
  · obtain ⟨⟨x, l2⟩, hu, h2⟩ := Option.map_eq_some_iff.mp ho
    injection h2 with h2 h3
    have hx := uvGo_lt 10 0 0 d x l2 rfl (by simp) hu
    obtain ⟨z, hz⟩ : ∃ z, z = IntKind.i64.wrap (x : Int) := ⟨_, rfl⟩
    replace h2 : Value.int .i64 (IntKind.i64.wrap (x : Int)) = y := h2
    rw [← hz] at h2
    subst h2 h3
    have c1 : IntKind.u64.wrap z = (x : Int) := by rw [hz]; simp [IntKind.wrap, IntKind.bits, IntKind.signed]; split <;> omega
    have hM : varM d = some (x, 0, [], l2) := by rw [varM, hu]; rfl
    have HM := Lib.hid hM
    clear ho hM hu hx hz
    have h1 := HG1.out.keeps hgo.keeps (HN.out _ (.inl rfl))
    have h2 := HG2.out.keeps hgo.keeps (HN.out _ (.inr (.inl rfl)))
    have hne : w.heap.size + 1 ≠ w.heap.size + 2 := by omega
    have a0 : w4.cell? ⟨w.heap.size + 2, 0, none⟩ = some (.int .u64 0) := h2.cell 0
    have a1 : w4.cell? ⟨w.heap.size + 2, 1, none⟩ = some (.int .u64 0) := h2.cell 1
    have a2 : w4.cell? ⟨w.heap.size + 2, 2, none⟩ = some (.slice none 0 0) := h2.cell 2
    have a3 : w4.cell? ⟨w.heap.size + 2, 3, none⟩ = some (.bool false) := h2.cell 3
    have b0 : w4.cell? ⟨w.heap.size + 1, 0, none⟩ = some (.int .u64 0) := h1.cell 0
    have b1 : w4.cell? ⟨w.heap.size + 1, 1, none⟩ = some (.int .u64 0) := h1.cell 1
    have b2 : w4.cell? ⟨w.heap.size + 1, 2, none⟩ = some (.slice none 0 0) := h1.cell 2
    have b3 : w4.cell? ⟨w.heap.size + 1, 3, none⟩ = some (.bool false) := h1.cell 3
    have z20 : w4.frozen? ⟨w.heap.size + 2, 0, none⟩ = false := h2.frozen 0
    have z21 : w4.frozen? ⟨w.heap.size + 2, 1, none⟩ = false := h2.frozen 1
    have z22 : w4.frozen? ⟨w.heap.size + 2, 2, none⟩ = false := h2.frozen 2
    have z10 : w4.frozen? ⟨w.heap.size + 1, 0, none⟩ = false := h1.frozen 0
    have z11 : w4.frozen? ⟨w.heap.size + 1, 1, none⟩ = false := h1.frozen 1
    have z12 : w4.frozen? ⟨w.heap.size + 1, 2, none⟩ = false := h1.frozen 2
    have z13 : w4.frozen? ⟨w.heap.size + 1, 3, none⟩ = false := h1.frozen 3
    have hl1 := h1.lt
    have hl2 := h2.lt
    go_wp2_with fail
    have r1 := ((((((h1.far (p := ⟨w.heap.size + 2, 0, none⟩) (by show w.heap.size + 1 ≠ w.heap.size + 2; omega) (.int .u64 (x : Int))).far (p := ⟨w.heap.size + 2, 2, none⟩) (by show w.heap.size + 1 ≠ w.heap.size + 2; omega) (.slice none 0 0)).put 0 (.int .u64 (x : Int))).put 1 (.int .u64 0)).put 2 (.slice none 0 0)).put 3 (.bool false))
    have hld := run_loadVar_row (P := Tryd.prog) _ (w.heap.size + 1) 34 34 _ (0, 0) _ r1 Tryd.underlying34 rfl infoGot
    have k5 := (((((((Keeps.refl (fun i => w.heap.size ≤ i ∧ i < (((w.alloc (.cells #[.int .i64 16, .int .u64 u, .int .u64 v, .slice S n c] 28)).alloc (.cells #[.int .u64 0, .int .u64 0, .slice none 0 0, .bool false] 34)).alloc (.cells #[.int .u64 0, .int .u64 0, .slice none 0 0, .bool false] 34)).heap.size) w4).setCell (p := ⟨w.heap.size + 2, 0, none⟩) (.inl ⟨by show w.heap.size ≤ w.heap.size + 2; omega, by rw [HSZ.out]; show w.heap.size + 2 < _; omega⟩) (.int .u64 (x : Int))).setCell (p := ⟨w.heap.size + 2, 2, none⟩) (.inl ⟨by show w.heap.size ≤ w.heap.size + 2; omega, by rw [HSZ.out]; show w.heap.size + 2 < _; omega⟩) (.slice none 0 0)).setCell (p := ⟨w.heap.size + 1, 0, none⟩) (.inl ⟨by show w.heap.size ≤ w.heap.size + 1; omega, by rw [HSZ.out]; show w.heap.size + 1 < _; omega⟩) (.int .u64 (x : Int))).setCell (p := ⟨w.heap.size + 1, 1, none⟩) (.inl ⟨by show w.heap.size ≤ w.heap.size + 1; omega, by rw [HSZ.out]; show w.heap.size + 1 < _; omega⟩) (.int .u64 0)).setCell (p := ⟨w.heap.size + 1, 2, none⟩) (.inl ⟨by show w.heap.size ≤ w.heap.size + 1; omega, by rw [HSZ.out]; show w.heap.size + 1 < _; omega⟩) (.slice none 0 0)).setCell (p := ⟨w.heap.size + 1, 3, none⟩) (.inl ⟨by show w.heap.size ≤ w.heap.size + 1; omega, by rw [HSZ.out]; show w.heap.size + 1 < _; omega⟩) (.bool false))
    have hfin := go_put HR.out HK0.out hgo k5 HD.out
    exact bodyPost_ret (results_cell1 rfl _ ⟨w.heap.size + 1, 0, none⟩ _ _ rfl hld) rfl (by rw [HM.out]; exact get_done hfin)
  · have HM := Lib.hid (show varM d = none by rw [varM, Option.map_eq_none_iff.mp ho]; rfl)
    clear ho
    have h1 := HG1.out.keeps hgo.keeps (HN.out _ (.inl rfl))
    have h2 := HG2.out.keeps hgo.keeps (HN.out _ (.inr (.inl rfl)))
    have hne : w.heap.size + 1 ≠ w.heap.size + 2 := by omega
    have a0 : w4.cell? ⟨w.heap.size + 2, 0, none⟩ = some (.int .u64 0) := h2.cell 0
    have a1 : w4.cell? ⟨w.heap.size + 2, 1, none⟩ = some (.int .u64 0) := h2.cell 1
    have a2 : w4.cell? ⟨w.heap.size + 2, 2, none⟩ = some (.slice none 0 0) := h2.cell 2
    have a3 : w4.cell? ⟨w.heap.size + 2, 3, none⟩ = some (.bool false) := h2.cell 3
    have b0 : w4.cell? ⟨w.heap.size + 1, 0, none⟩ = some (.int .u64 0) := h1.cell 0
    have b1 : w4.cell? ⟨w.heap.size + 1, 1, none⟩ = some (.int .u64 0) := h1.cell 1
    have b2 : w4.cell? ⟨w.heap.size + 1, 2, none⟩ = some (.slice none 0 0) := h1.cell 2
    have b3 : w4.cell? ⟨w.heap.size + 1, 3, none⟩ = some (.bool false) := h1.cell 3
    have z20 : w4.frozen? ⟨w.heap.size + 2, 0, none⟩ = false := h2.frozen 0
    have z21 : w4.frozen? ⟨w.heap.size + 2, 1, none⟩ = false := h2.frozen 1
    have z22 : w4.frozen? ⟨w.heap.size + 2, 2, none⟩ = false := h2.frozen 2
    have z10 : w4.frozen? ⟨w.heap.size + 1, 0, none⟩ = false := h1.frozen 0
    have z11 : w4.frozen? ⟨w.heap.size + 1, 1, none⟩ = false := h1.frozen 1
    have z12 : w4.frozen? ⟨w.heap.size + 1, 2, none⟩ = false := h1.frozen 2
    have z13 : w4.frozen? ⟨w.heap.size + 1, 3, none⟩ = false := h1.frozen 3
    have hl1 := h1.lt
    have hl2 := h2.lt
    go_wp2_with fail
    have r1 := (((((h1.far (p := ⟨w.heap.size + 2, 0, none⟩) (by show w.heap.size + 1 ≠ w.heap.size + 2; omega) (.int .u64 0)).put 0 (.int .u64 0)).put 1 (.int .u64 0)).put 2 (.slice none 0 0)).put 3 (.bool true))
    have hld := run_loadVar_row (P := Tryd.prog) _ (w.heap.size + 1) 34 34 _ (0, 0) _ r1 Tryd.underlying34 rfl infoGot
    have k5 := ((((((Keeps.refl (fun i => w.heap.size ≤ i ∧ i < (((w.alloc (.cells #[.int .i64 16, .int .u64 u, .int .u64 v, .slice S n c] 28)).alloc (.cells #[.int .u64 0, .int .u64 0, .slice none 0 0, .bool false] 34)).alloc (.cells #[.int .u64 0, .int .u64 0, .slice none 0 0, .bool false] 34)).heap.size) w4).setCell (p := ⟨w.heap.size + 2, 0, none⟩) (.inl ⟨by show w.heap.size ≤ w.heap.size + 2; omega, by rw [HSZ.out]; show w.heap.size + 2 < _; omega⟩) (.int .u64 0)).setCell (p := ⟨w.heap.size + 1, 0, none⟩) (.inl ⟨by show w.heap.size ≤ w.heap.size + 1; omega, by rw [HSZ.out]; show w.heap.size + 1 < _; omega⟩) (.int .u64 0)).setCell (p := ⟨w.heap.size + 1, 1, none⟩) (.inl ⟨by show w.heap.size ≤ w.heap.size + 1; omega, by rw [HSZ.out]; show w.heap.size + 1 < _; omega⟩) (.int .u64 0)).setCell (p := ⟨w.heap.size + 1, 2, none⟩) (.inl ⟨by show w.heap.size ≤ w.heap.size + 1; omega, by rw [HSZ.out]; show w.heap.size + 1 < _; omega⟩) (.slice none 0 0)).setCell (p := ⟨w.heap.size + 1, 3, none⟩) (.inl ⟨by show w.heap.size ≤ w.heap.size + 1; omega, by rw [HSZ.out]; show w.heap.size + 1 < _; omega⟩) (.bool true))
    have hfin := go_put HR.out HK0.out hgo k5 HD.out
    exact bodyPost_ret (results_cell1 rfl _ ⟨w.heap.size + 1, 0, none⟩ _ _ rfl hld) rfl (.inr ⟨l, HM.out, rfl, hfin⟩)
set_option maxRecDepth 100000 in
set_option maxHeartbeats 4000000 in
theorem mr17 (w : World) (base rb bb : Nat) (D R : Option Nat) (d : List UInt8) (hR : RdrOn w base rb bb D R d) (hD : ∀ i, D = some i → i < w.heap.size) (u v : Int) (S : Option Addr) (n c : Nat) (hX : ∀ x l, uvGo 10 0 0 d = some (x, l) → x ≤ 1000) : Calls Tryd.prog 47 #[.agg #[.int .i64 17, .int .u64 u, .int .u64 v, .slice S n c], .pointer (some ⟨rb, 0, none⟩)] w (GetOk w base rb bb D R (varM d)) := by
  obtain ⟨K0, hp0, hg1, hg2⟩ := start3 w 28 34 #[.int .i64 17, .int .u64 u, .int .u64 v, .slice S n c] #[.int .u64 0, .int .u64 0, .slice none 0 0, .bool false] #[.int .u64 0, .int .u64 0, .slice none 0 0, .bool false]
  have HK0 := Lib.hid K0
  have HP0 := Lib.hid hp0
  have HG1 := Lib.hid hg1
  have HG2 := Lib.hid hg2
  have HR := Lib.hid hR
  have HN := Lib.hid (own_new hR)
  have HD := Lib.hid hD
  have HAP := appNil
  have HU := Lib.hid (rwStrLen _ base rb bb D R d (hR.new K0) hX)
  have HSZ := Lib.hid (size3 w (.cells #[.int .i64 17, .int .u64 u, .int .u64 v, .slice S n c] 28) (.cells #[.int .u64 0, .int .u64 0, .slice none 0 0, .bool false] 34) (.cells #[.int .u64 0, .int .u64 0, .slice none 0 0, .bool false] 34))
  clear hR K0 hp0 hg1 hg2 hD
  go_enter Tryd.func47, Tryd.ntmps47
  go_wp2_with fail
  refine HU.out.mono ?_
  rintro e w4 (⟨y, l, ho, rfl, hgo⟩ | ⟨x, l, ho, rfl, ⟨a, rfl⟩, hgo⟩)
  · obtain ⟨⟨x, l2⟩, hu, h2⟩ := Option.map_eq_some_iff.mp ho
    injection h2 with h2 h3
    have hx := uvGo_lt 10 0 0 d x l2 rfl (by simp) hu
    subst h2 h3
    have c2 : IntKind.u64.wrap (x : Int) = (x : Int) := by rw [IntKind.wrap_u64]; omega
    have hM : varM d = some (x, 0, [], l2) := by rw [varM, hu]; rfl
    have HM := Lib.hid hM
    clear ho hM hu hx
    have h1 := HG1.out.keeps hgo.keeps (HN.out _ (.inl rfl))
    have h2 := HG2.out.keeps hgo.keeps (HN.out _ (.inr (.inl rfl)))
    have hne : w.heap.size + 1 ≠ w.heap.size + 2 := by omega
    have a0 : w4.cell? ⟨w.heap.size + 2, 0, none⟩ = some (.int .u64 0) := h2.cell 0
    have a1 : w4.cell? ⟨w.heap.size + 2, 1, none⟩ = some (.int .u64 0) := h2.cell 1
    have a2 : w4.cell? ⟨w.heap.size + 2, 2, none⟩ = some (.slice none 0 0) := h2.cell 2
    have a3 : w4.cell? ⟨w.heap.size + 2, 3, none⟩ = some (.bool false) := h2.cell 3
    have b0 : w4.cell? ⟨w.heap.size + 1, 0, none⟩ = some (.int .u64 0) := h1.cell 0
    have b1 : w4.cell? ⟨w.heap.size + 1, 1, none⟩ = some (.int .u64 0) := h1.cell 1
    have b2 : w4.cell? ⟨w.heap.size + 1, 2, none⟩ = some (.slice none 0 0) := h1.cell 2
    have b3 : w4.cell? ⟨w.heap.size + 1, 3, none⟩ = some (.bool false) := h1.cell 3
    have z20 : w4.frozen? ⟨w.heap.size + 2, 0, none⟩ = false := h2.frozen 0
    have z21 : w4.frozen? ⟨w.heap.size + 2, 1, none⟩ = false := h2.frozen 1
    have z22 : w4.frozen? ⟨w.heap.size + 2, 2, none⟩ = false := h2.frozen 2
    have z10 : w4.frozen? ⟨w.heap.size + 1, 0, none⟩ = false := h1.frozen 0
    have z11 : w4.frozen? ⟨w.heap.size + 1, 1, none⟩ = false := h1.frozen 1
    have z12 : w4.frozen? ⟨w.heap.size + 1, 2, none⟩ = false := h1.frozen 2
    have z13 : w4.frozen? ⟨w.heap.size + 1, 3, none⟩ = false := h1.frozen 3
    have hl1 := h1.lt
    have hl2 := h2.lt
    go_wp2_with fail
    have r1 := ((((((h1.far (p := ⟨w.heap.size + 2, 0, none⟩) (by show w.heap.size + 1 ≠ w.heap.size + 2; omega) (.int .u64 (x : Int))).far (p := ⟨w.heap.size + 2, 2, none⟩) (by show w.heap.size + 1 ≠ w.heap.size + 2; omega) (.slice none 0 0)).put 0 (.int .u64 (x : Int))).put 1 (.int .u64 0)).put 2 (.slice none 0 0)).put 3 (.bool false))
    have hld := run_loadVar_row (P := Tryd.prog) _ (w.heap.size + 1) 34 34 _ (0, 0) _ r1 Tryd.underlying34 rfl infoGot
    have k5 := (((((((Keeps.refl (fun i => w.heap.size ≤ i ∧ i < (((w.alloc (.cells #[.int .i64 17, .int .u64 u, .int .u64 v, .slice S n c] 28)).alloc (.cells #[.int .u64 0, .int .u64 0, .slice none 0 0, .bool false] 34)).alloc (.cells #[.int .u64 0, .int .u64 0, .slice none 0 0, .bool false] 34)).heap.size) w4).setCell (p := ⟨w.heap.size + 2, 0, none⟩) (.inl ⟨by show w.heap.size ≤ w.heap.size + 2; omega, by rw [HSZ.out]; show w.heap.size + 2 < _; omega⟩) (.int .u64 (x : Int))).setCell (p := ⟨w.heap.size + 2, 2, none⟩) (.inl ⟨by show w.heap.size ≤ w.heap.size + 2; omega, by rw [HSZ.out]; show w.heap.size + 2 < _; omega⟩) (.slice none 0 0)).setCell (p := ⟨w.heap.size + 1, 0, none⟩) (.inl ⟨by show w.heap.size ≤ w.heap.size + 1; omega, by rw [HSZ.out]; show w.heap.size + 1 < _; omega⟩) (.int .u64 (x : Int))).setCell (p := ⟨w.heap.size + 1, 1, none⟩) (.inl ⟨by show w.heap.size ≤ w.heap.size + 1; omega, by rw [HSZ.out]; show w.heap.size + 1 < _; omega⟩) (.int .u64 0)).setCell (p := ⟨w.heap.size + 1, 2, none⟩) (.inl ⟨by show w.heap.size ≤ w.heap.size + 1; omega, by rw [HSZ.out]; show w.heap.size + 1 < _; omega⟩) (.slice none 0 0)).setCell (p := ⟨w.heap.size + 1, 3, none⟩) (.inl ⟨by show w.heap.size ≤ w.heap.size + 1; omega, by rw [HSZ.out]; show w.heap.size + 1 < _; omega⟩) (.bool false))
    have hfin := go_put HR.out HK0.out hgo k5 HD.out
    exact bodyPost_ret (results_cell1 rfl _ ⟨w.heap.size + 1, 0, none⟩ _ _ rfl hld) rfl (by rw [HM.out]; exact get_done hfin)
  · have HM := Lib.hid (show varM d = none by rw [varM, Option.map_eq_none_iff.mp ho]; rfl)
    clear ho
    have h1 := HG1.out.keeps hgo.keeps (HN.out _ (.inl rfl))
    have h2 := HG2.out.keeps hgo.keeps (HN.out _ (.inr (.inl rfl)))
    have hne : w.heap.size + 1 ≠ w.heap.size + 2 := by omega
    have a0 : w4.cell? ⟨w.heap.size + 2, 0, none⟩ = some (.int .u64 0) := h2.cell 0
    have a1 : w4.cell? ⟨w.heap.size + 2, 1, none⟩ = some (.int .u64 0) := h2.cell 1
    have a2 : w4.cell? ⟨w.heap.size + 2, 2, none⟩ = some (.slice none 0 0) := h2.cell 2
    have a3 : w4.cell? ⟨w.heap.size + 2, 3, none⟩ = some (.bool false) := h2.cell 3
    have b0 : w4.cell? ⟨w.heap.size + 1, 0, none⟩ = some (.int .u64 0) := h1.cell 0
    have b1 : w4.cell? ⟨w.heap.size + 1, 1, none⟩ = some (.int .u64 0) := h1.cell 1
    have b2 : w4.cell? ⟨w.heap.size + 1, 2, none⟩ = some (.slice none 0 0) := h1.cell 2
    have b3 : w4.cell? ⟨w.heap.size + 1, 3, none⟩ = some (.bool false) := h1.cell 3
    have z20 : w4.frozen? ⟨w.heap.size + 2, 0, none⟩ = false := h2.frozen 0
    have z21 : w4.frozen? ⟨w.heap.size + 2, 1, none⟩ = false := h2.frozen 1
    have z22 : w4.frozen? ⟨w.heap.size + 2, 2, none⟩ = false := h2.frozen 2
    have z10 : w4.frozen? ⟨w.heap.size + 1, 0, none⟩ = false := h1.frozen 0
    have z11 : w4.frozen? ⟨w.heap.size + 1, 1, none⟩ = false := h1.frozen 1
    have z12 : w4.frozen? ⟨w.heap.size + 1, 2, none⟩ = false := h1.frozen 2
    have z13 : w4.frozen? ⟨w.heap.size + 1, 3, none⟩ = false := h1.frozen 3
    have hl1 := h1.lt
    have hl2 := h2.lt
    go_wp2_with fail
    have r1 := (((((h1.far (p := ⟨w.heap.size + 2, 0, none⟩) (by show w.heap.size + 1 ≠ w.heap.size + 2; omega) (.int .u64 0)).put 0 (.int .u64 0)).put 1 (.int .u64 0)).put 2 (.slice none 0 0)).put 3 (.bool true))
    have hld := run_loadVar_row (P := Tryd.prog) _ (w.heap.size + 1) 34 34 _ (0, 0) _ r1 Tryd.underlying34 rfl infoGot
    have k5 := ((((((Keeps.refl (fun i => w.heap.size ≤ i ∧ i < (((w.alloc (.cells #[.int .i64 17, .int .u64 u, .int .u64 v, .slice S n c] 28)).alloc (.cells #[.int .u64 0, .int .u64 0, .slice none 0 0, .bool false] 34)).alloc (.cells #[.int .u64 0, .int .u64 0, .slice none 0 0, .bool false] 34)).heap.size) w4).setCell (p := ⟨w.heap.size + 2, 0, none⟩) (.inl ⟨by show w.heap.size ≤ w.heap.size + 2; omega, by rw [HSZ.out]; show w.heap.size + 2 < _; omega⟩) (.int .u64 0)).setCell (p := ⟨w.heap.size + 1, 0, none⟩) (.inl ⟨by show w.heap.size ≤ w.heap.size + 1; omega, by rw [HSZ.out]; show w.heap.size + 1 < _; omega⟩) (.int .u64 0)).setCell (p := ⟨w.heap.size + 1, 1, none⟩) (.inl ⟨by show w.heap.size ≤ w.heap.size + 1; omega, by rw [HSZ.out]; show w.heap.size + 1 < _; omega⟩) (.int .u64 0)).setCell (p := ⟨w.heap.size + 1, 2, none⟩) (.inl ⟨by show w.heap.size ≤ w.heap.size + 1; omega, by rw [HSZ.out]; show w.heap.size + 1 < _; omega⟩) (.slice none 0 0)).setCell (p := ⟨w.heap.size + 1, 3, none⟩) (.inl ⟨by show w.heap.size ≤ w.heap.size + 1; omega, by rw [HSZ.out]; show w.heap.size + 1 < _; omega⟩) (.bool true))
    have hfin := go_put HR.out HK0.out hgo k5 HD.out
    exact bodyPost_ret (results_cell1 rfl _ ⟨w.heap.size + 1, 0, none⟩ _ _ rfl hld) rfl (.inr ⟨l, HM.out, rfl, hfin⟩)
end Go.Proofs.YthfoleapdmpdfaaDoor
