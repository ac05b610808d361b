/- The specification reads values: widths, numbers of one width, varints. Conditions: the specification's table of widths is laid. -/
import Derived.Test.YthfoleapdmpdfaaDoorPsA
import Derived.Lib.LaidTab
import Derived.StillTailTactics
namespace Go.Proofs.YthfoleapdmpdfaaDoor
open Go.RowKit Go.Lib
set_option linter.unusedVariables false
def prW : List Int := [0, 1, 1, 1, 2, 4, 8, 1, 2, 4, 8, 4, 8, 16, 16, 0, 0, 0, 0, 0]
def WidthsV (w : World) : Prop := ∀ i x, prW[i]? = some x → w.cell? ⟨1, i, none⟩ = some (.int .i64 x)
theorem WidthsV.new {w w' : World} (h : WidthsV w) (k : Keeps (fun _ => False) w w') : WidthsV w' := fun i x hx => (k.cell (World.block_lt_of_cell? w _ (h i x hx)) (fun h => h)).trans (h i x hx)
theorem widths_laid {w : World} (h : laidMet Tryd.prog [("given.example/pub-clapboard/spec.prWidths", .agg (prW.map fun z => .lit (.int .i64 z)))] w) : WidthsV w := by
  have hT : TabIs Tryd.prog w "given.example/pub-clapboard/spec.prWidths" .i64 prW := tabIs_of_head (g := 1) (by kernel_rfl) (by kernel_rfl) Tryd.underlying96 Tryd.underlying3 (by kernel_rfl) (by kernel_rfl) h
  intro i x hx
  have hl : i < prW.length := (List.getElem?_eq_some_iff.1 hx).1
  have := TabIs.cell hT (show Tryd.prog.globalNamed "given.example/pub-clapboard/spec.prWidths" = some 1 by kernel_rfl) i hl
  rw [this, List.getD_eq_getElem?_getD, hx]
  rfl
/-- How many bytes a number of an Op has. -/
def wd (op : Int) : Nat := if op < 0 ∨ 20 ≤ op then 0 else (prW.getD op.toNat 0).toNat

theorem prWidth (w : World) (hW : WidthsV w) (op : Int) (h1 : 1 ≤ op) (h22 : op ≤ 22) : Calls Tryd.prog 27 #[.int .i64 op] w fun e w' => e = .returned (.int .i64 (wd op : Int)) ∧ w = w' := by
  have hop : op = 1 ∨ op = 2 ∨ op = 3 ∨ op = 4 ∨ op = 5 ∨ op = 6 ∨ op = 7 ∨ op = 8 ∨ op = 9 ∨ op = 10 ∨ op = 11 ∨ op = 12 ∨ op = 13 ∨ op = 14 ∨ op = 15 ∨ op = 16 ∨ op = 17 ∨ op = 18 ∨ op = 19 ∨ op = 20 ∨ op = 21 ∨ op = 22 := by omega
  clear h1 h22
  rcases hop with rfl | rfl | rfl | rfl | rfl | rfl | rfl | rfl | rfl | rfl | rfl | rfl | rfl | rfl | rfl | rfl | rfl | rfl | rfl | rfl | rfl | rfl
  · have hc : w.cell? ⟨1, 1, none⟩ = some (.int .i64 1) := hW 1 _ rfl
    have hlt := World.block_lt_of_cell? w _ hc
    clear hW
    go_enter Tryd.func27, Tryd.ntmps27
    go_wp2_with fail
    go_ret
    exact ⟨rfl, rfl⟩
  · have hc : w.cell? ⟨1, 2, none⟩ = some (.int .i64 1) := hW 2 _ rfl
    have hlt := World.block_lt_of_cell? w _ hc
    clear hW
    go_enter Tryd.func27, Tryd.ntmps27
    go_wp2_with fail
    go_ret
    exact ⟨rfl, rfl⟩
  · have hc : w.cell? ⟨1, 3, none⟩ = some (.int .i64 1) := hW 3 _ rfl
    have hlt := World.block_lt_of_cell? w _ hc
    clear hW
    go_enter Tryd.func27, Tryd.ntmps27
    go_wp2_with fail
    go_ret
    exact ⟨rfl, rfl⟩
  · have hc : w.cell? ⟨1, 4, none⟩ = some (.int .i64 2) := hW 4 _ rfl
    have hlt := World.block_lt_of_cell? w _ hc
    clear hW
    go_enter Tryd.func27, Tryd.ntmps27
    go_wp2_with fail
    go_ret
    exact ⟨rfl, rfl⟩
  · have hc : w.cell? ⟨1, 5, none⟩ = some (.int .i64 4) := hW 5 _ rfl
    have hlt := World.block_lt_of_cell? w _ hc
    clear hW
    go_enter Tryd.func27, Tryd.ntmps27
    go_wp2_with fail
    go_ret
    exact ⟨rfl, rfl⟩
  · have hc : w.cell? ⟨1, 6, none⟩ = some (.int .i64 8) := hW 6 _ rfl
    have hlt := World.block_lt_of_cell? w _ hc
    clear hW
    go_enter Tryd.func27, Tryd.ntmps27
    go_wp2_with fail
    go_ret
    exact ⟨rfl, rfl⟩
  · have hc : w.cell? ⟨1, 7, none⟩ = some (.int .i64 1) := hW 7 _ rfl
    have hlt := World.block_lt_of_cell? w _ hc
    clear hW
    go_enter Tryd.func27, Tryd.ntmps27
    go_wp2_with fail
    go_ret
    exact ⟨rfl, rfl⟩
  · have hc : w.cell? ⟨1, 8, none⟩ = some (.int .i64 2) := hW 8 _ rfl
    have hlt := World.block_lt_of_cell? w _ hc
    clear hW
    go_enter Tryd.func27, Tryd.ntmps27
    go_wp2_with fail
    go_ret
    exact ⟨rfl, rfl⟩
  · have hc : w.cell? ⟨1, 9, none⟩ = some (.int .i64 4) := hW 9 _ rfl
    have hlt := World.block_lt_of_cell? w _ hc
    clear hW
    go_enter Tryd.func27, Tryd.ntmps27
    go_wp2_with fail
    go_ret
    exact ⟨rfl, rfl⟩
  · have hc : w.cell? ⟨1, 10, none⟩ = some (.int .i64 8) := hW 10 _ rfl
    have hlt := World.block_lt_of_cell? w _ hc
    clear hW
    go_enter Tryd.func27, Tryd.ntmps27
    go_wp2_with fail
    go_ret
    exact ⟨rfl, rfl⟩
  · have hc : w.cell? ⟨1, 11, none⟩ = some (.int .i64 4) := hW 11 _ rfl
    have hlt := World.block_lt_of_cell? w _ hc
    clear hW
    go_enter Tryd.func27, Tryd.ntmps27
    go_wp2_with fail
    go_ret
    exact ⟨rfl, rfl⟩
  · have hc : w.cell? ⟨1, 12, none⟩ = some (.int .i64 8) := hW 12 _ rfl
    have hlt := World.block_lt_of_cell? w _ hc
    clear hW
    go_enter Tryd.func27, Tryd.ntmps27
    go_wp2_with fail
    go_ret
    exact ⟨rfl, rfl⟩
  · have hc : w.cell? ⟨1, 13, none⟩ = some (.int .i64 16) := hW 13 _ rfl
    have hlt := World.block_lt_of_cell? w _ hc
    clear hW
    go_enter Tryd.func27, Tryd.ntmps27
    go_wp2_with fail
    go_ret
    exact ⟨rfl, rfl⟩
  · have hc : w.cell? ⟨1, 14, none⟩ = some (.int .i64 16) := hW 14 _ rfl
    have hlt := World.block_lt_of_cell? w _ hc
    clear hW
    go_enter Tryd.func27, Tryd.ntmps27
    go_wp2_with fail
    go_ret
    exact ⟨rfl, rfl⟩
  · have hc : w.cell? ⟨1, 15, none⟩ = some (.int .i64 0) := hW 15 _ rfl
    have hlt := World.block_lt_of_cell? w _ hc
    clear hW
    go_enter Tryd.func27, Tryd.ntmps27
    go_wp2_with fail
    go_ret
    exact ⟨rfl, rfl⟩
  · have hc : w.cell? ⟨1, 16, none⟩ = some (.int .i64 0) := hW 16 _ rfl
    have hlt := World.block_lt_of_cell? w _ hc
    clear hW
    go_enter Tryd.func27, Tryd.ntmps27
    go_wp2_with fail
    go_ret
    exact ⟨rfl, rfl⟩
  · have hc : w.cell? ⟨1, 17, none⟩ = some (.int .i64 0) := hW 17 _ rfl
    have hlt := World.block_lt_of_cell? w _ hc
    clear hW
    go_enter Tryd.func27, Tryd.ntmps27
    go_wp2_with fail
    go_ret
    exact ⟨rfl, rfl⟩
  · have hc : w.cell? ⟨1, 18, none⟩ = some (.int .i64 0) := hW 18 _ rfl
    have hlt := World.block_lt_of_cell? w _ hc
    clear hW
    go_enter Tryd.func27, Tryd.ntmps27
    go_wp2_with fail
    go_ret
    exact ⟨rfl, rfl⟩
  · have hc : w.cell? ⟨1, 19, none⟩ = some (.int .i64 0) := hW 19 _ rfl
    have hlt := World.block_lt_of_cell? w _ hc
    clear hW
    go_enter Tryd.func27, Tryd.ntmps27
    go_wp2_with fail
    go_ret
    exact ⟨rfl, rfl⟩
  · clear hW
    go_enter Tryd.func27, Tryd.ntmps27
    go_wp2_with fail
    go_ret
    exact ⟨rfl, rfl⟩
  · clear hW
    go_enter Tryd.func27, Tryd.ntmps27
    go_wp2_with fail
    go_ret
    exact ⟨rfl, rfl⟩
  · clear hW
    go_enter Tryd.func27, Tryd.ntmps27
    go_wp2_with fail
    go_ret
    exact ⟨rfl, rfl⟩
theorem leNat_snoc : ∀ (d : List UInt8) (k : Nat) (b : UInt8), d[k]? = some b → leNat (d.take (k + 1)) = leNat (d.take k) + b.toNat * 256 ^ k
  | [], k, b, h => by simp at h
  | a :: t, 0, b, h => by
    simp at h
    subst h
    simp [leNat]
  | a :: t, k + 1, b, h => by
    have ih := leNat_snoc t k b (by simpa using h)
    rw [List.take_succ_cons, List.take_succ_cons, leNat, leNat, ih, Nat.pow_succ, Nat.mul_add, ← Nat.mul_assoc, Nat.mul_comm 256 b.toNat, Nat.mul_assoc b.toNat, Nat.mul_comm 256 (256 ^ k)]
    omega
theorem leV {d : List UInt8} {k : Nat} {b : UInt8} (hk : k < 8) (hb : d[k]? = some b) : Go.bits .or .u64 ((leNat (d.take k) : Nat) : Int) (IntKind.u64.wrap ((b.toNat : Int) * 2 ^ (8 * k))) = ((leNat (d.take (k + 1)) : Nat) : Int) := by
  have hl : (d.take k).length = k := by
    have := (List.getElem?_eq_some_iff.1 hb).1
    rw [List.length_take]; omega
  have h1 := leNat_lt' (d.take k)
  have hp : 256 ^ k = 2 ^ (8 * k) := by rw [Nat.pow_mul]
  rw [hl, hp] at h1
  have h2 : 2 ^ (8 * (k + 1)) ≤ 2 ^ 64 := Nat.pow_le_pow_right (by omega) (by omega)
  have h3 : 2 ^ (8 * (k + 1)) = 256 * 2 ^ (8 * k) := by rw [show 8 * (k + 1) = 8 + 8 * k by omega, Nat.pow_add]
  have hb256 := b.toNat_lt
  have h4 := Nat.mul_le_mul_right (2 ^ (8 * k)) (show b.toNat + 1 ≤ 256 by omega)
  rw [Nat.add_mul, Nat.one_mul] at h4
  rw [or_shift _ _ (8 * k) h1 (by omega) (by omega), leNat_snoc d k b hb, hp]
/-- What spec.prFixed answers. -/
def fixM (k : Nat) (d : List UInt8) : Option (Nat × Nat) := if d.length < k then none else some (leNat (d.take (min k 8)), leNat ((d.drop 8).take (k - 8)))
set_option maxRecDepth 100000 in
set_option maxHeartbeats 4000000 in
theorem prFixedOk (w : World) (A : Option Addr) (c : Nat) (d : List UInt8) (K : Nat) (hK : K ≤ 16) (hl : K ≤ d.length) (hdl : d.length ≤ 1000) (hR : Rd w 1 A d.length (Lib.byteCells d)) :
    Calls Tryd.prog 35 #[.slice A d.length c, .int .i64 K] w fun e w' => e = .returned (.agg #[.int .u64 (leNat (d.take (min K 8)) : Int), .int .u64 (leNat ((d.drop 8).take (K - 8)) : Int), .slice none 0 0, .bool false]) ∧ Keeps (fun _ => False) w w' := by
  have hw0 := Whole.new w 34 #[.int .u64 0, .int .u64 0, .slice none 0 0, .bool false]
  have hw1 := Whole.new (w.alloc (.cells #[.int .u64 0, .int .u64 0, .slice none 0 0, .bool false] 34)) 34 #[.int .u64 0, .int .u64 0, .slice none 0 0, .bool false]
  rw [World.size_alloc] at hw1
  have hw0' := hw0.alloc (.cells #[.int .u64 0, .int .u64 0, .slice none 0 0, .bool false] 34)
  have K0 := ((Keeps.refl (fun _ => False) w).alloc (.cells #[.int .u64 0, .int .u64 0, .slice none 0 0, .bool false] 34)).alloc (.cells #[.int .u64 0, .int .u64 0, .slice none 0 0, .bool false] 34)
  have HR := Lib.hid hR
  have hns : ¬ (d.length : Int) < (K : Int) := by omega
  have HL := Lib.hid (And.intro hl hdl)
  clear hR hl hdl hw0
  obtain ⟨n, hn⟩ : ∃ n, n = d.length := ⟨_, rfl⟩
  have HNN := Lib.hid hn
  rw [← hn] at hns ⊢
  clear hn
  go_enter Tryd.func35, Tryd.ntmps35
  go_wp2_with fail
  go_loopw [6] (fun i wr => ∃ (k : Nat), k ≤ K ∧ i = .int .i64 k ∧ Hid (Whole wr (w.heap.size + 1) 34 #[.int .u64 (leNat (d.take (min k 8)) : Int), .int .u64 (leNat ((d.drop 8).take (k - 8)) : Int), .slice none 0 0, .bool false]) ∧ Hid (Whole wr w.heap.size 34 #[.int .u64 0, .int .u64 0, .slice none 0 0, .bool false]) ∧ Hid (Keeps (fun _ => False) w wr)) (fun i _ => K - (RowKit.intOf i).toNat)
  case atStart => exact ⟨0, Nat.zero_le _, rfl, Lib.hid (by simpa [leNat] using hw1), Lib.hid hw0', Lib.hid K0⟩
  case round =>
    obtain ⟨k, hk, rfl, H1, H0, HKK⟩ := hrel
    clear hw1 hw0' K0
    obtain ⟨U, hU⟩ : ∃ U, U = leNat (d.take (min k 8)) := ⟨_, rfl⟩
    obtain ⟨V, hV⟩ : ∃ V, V = leNat ((d.drop 8).take (k - 8)) := ⟨_, rfl⟩
    have h1 := H1.out
    rw [← hU, ← hV] at h1
    have HUV := Lib.hid (And.intro hU hV)
    clear hU hV
    have a0 : wr.cell? ⟨w.heap.size + 1, 0, none⟩ = some (.int .u64 (U : Int)) := h1.cell 0
    have a1 : wr.cell? ⟨w.heap.size + 1, 1, none⟩ = some (.int .u64 (V : Int)) := h1.cell 1
    have a2 : wr.cell? ⟨w.heap.size + 1, 2, none⟩ = some (.slice none 0 0) := h1.cell 2
    have a3 : wr.cell? ⟨w.heap.size + 1, 3, none⟩ = some (.bool false) := h1.cell 3
    have z0 : wr.frozen? ⟨w.heap.size + 1, 0, none⟩ = false := h1.frozen 0
    have z1 : wr.frozen? ⟨w.heap.size + 1, 1, none⟩ = false := h1.frozen 1
    have al := h1.lt
    by_cases hlt : k < K
    · obtain ⟨ad, hA, hb, hcell⟩ := (HR.out.keeps HKK.out (fun _ _ h => h)).2 (by have := HL.out.1; omega)
      obtain ⟨b, hbk⟩ : ∃ b, d[k]? = some b := ⟨_, List.getElem?_eq_getElem (by have := HL.out.1; omega)⟩
      have hcb := hcell k (.int .u8 b.toNat) (by simp [Lib.byteCells, hbk])
      obtain ⟨x, hx⟩ : ∃ x, x = b.toNat := ⟨_, rfl⟩
      have hx256 : x < 256 := by rw [hx]; exact b.toNat_lt
      rw [← hx] at hcb
      subst hA
      have hkn : (k : Int) < (n : Int) := by have := HL.out.1; have := HNN.out; omega
      have hk0 : (0 : Int) ≤ (k : Int) := by omega
      by_cases h8 : k < 8
      · have m8 : IntKind.i64.wrap (8 * (k : Int)) = ((8 * k : Nat) : Int) := by rw [IntKind.wrap_i64]; omega
        have m9 : (0 : Int) ≤ ((8 * k : Nat) : Int) := by omega
        have HW1 := Lib.hid h1
        have HBX := Lib.hid (And.intro hbk hx)
        clear hcell hbk hx h1
        go_wp2_with fail
        go_still_tail 11, (by kernel_rfl)
        change wpList _ _ _ _ _ wr.drew
        have kd := (Keeps.refl (fun _ => False) wr).drew
        have h1d := HW1.out.keeps kd (fun h => h)
        have h0d := H0.out.keeps kd (fun h => h)
        have kkd := HKK.out.trans kd (fun _ _ h => h)
        have hsd : w.heap.size + 1 < wr.drew.heap.size := h1d.lt
        clear kd a0 a1 a2 a3 z0 z1 al
        generalize wr.drew = w2 at *
        have a0 : w2.cell? ⟨w.heap.size + 1, 0, none⟩ = some (.int .u64 (U : Int)) := h1d.cell 0
        have z0 : w2.frozen? ⟨w.heap.size + 1, 0, none⟩ = false := h1d.frozen 0
        go_wp2_with fail
        have hval := leV h8 HBX.out.1
        rw [← HBX.out.2, show d.take k = d.take (min k 8) by rw [Nat.min_eq_left (by omega)], ← HUV.out.1, show d.take (k + 1) = d.take (min (k + 1) 8) by rw [Nat.min_eq_left (by omega)]] at hval
        have hV0 : leNat ((d.drop 8).take (k + 1 - 8)) = V := by rw [HUV.out.2, show k + 1 - 8 = k - 8 by omega]
        have hn1 := h1d.put 0 (.int .u64 (leNat (d.take (min (k + 1) 8)) : Int))
        rw [← hV0] at hn1
        have hn0 := h0d.far (p := ⟨w.heap.size + 1, 0, none⟩) (by show w.heap.size ≠ w.heap.size + 1; omega) (.int .u64 (leNat (d.take (min (k + 1) 8)) : Int))
        have kn := kkd.setCell (p := ⟨w.heap.size + 1, 0, none⟩) (.inr (by show w.heap.size ≤ w.heap.size + 1; omega)) (.int .u64 (leNat (d.take (min (k + 1) 8)) : Int))
        rw [hval]
        refine ⟨⟨k + 1, by omega, by go_num, Lib.hid hn1, Lib.hid hn0, Lib.hid kn⟩, ?_⟩
        first | (simp [RowKit.intOf]; done) | (simp [RowKit.intOf]; omega)
      · have m7 : IntKind.i64.wrap ((k : Int) - 8) = ((k - 8 : Nat) : Int) := by rw [IntKind.wrap_i64]; omega
        have m8 : IntKind.i64.wrap (8 * ((k - 8 : Nat) : Int)) = ((8 * (k - 8) : Nat) : Int) := by rw [IntKind.wrap_i64]; omega
        have m9 : (0 : Int) ≤ ((8 * (k - 8) : Nat) : Int) := by omega
        have HW1 := Lib.hid h1
        have HBX := Lib.hid (And.intro hbk hx)
        clear hcell hbk hx h1
        go_wp2_with fail
        go_still_tail 12, (by kernel_rfl)
        change wpList _ _ _ _ _ wr.drew
        have kd := (Keeps.refl (fun _ => False) wr).drew
        have h1d := HW1.out.keeps kd (fun h => h)
        have h0d := H0.out.keeps kd (fun h => h)
        have kkd := HKK.out.trans kd (fun _ _ h => h)
        have hsd : w.heap.size + 1 < wr.drew.heap.size := h1d.lt
        clear kd a0 a1 a2 a3 z0 z1 al
        generalize wr.drew = w2 at *
        have a1 : w2.cell? ⟨w.heap.size + 1, 1, none⟩ = some (.int .u64 (V : Int)) := h1d.cell 1
        have z1 : w2.frozen? ⟨w.heap.size + 1, 1, none⟩ = false := h1d.frozen 1
        go_wp2_with fail
        have hval := leV (d := d.drop 8) (k := k - 8) (b := b) (by omega) (by rw [List.getElem?_drop, show 8 + (k - 8) = k by omega]; exact HBX.out.1)
        rw [← HBX.out.2, ← HUV.out.2, show k - 8 + 1 = k + 1 - 8 by omega] at hval
        have hU0 : leNat (d.take (min (k + 1) 8)) = U := by rw [HUV.out.1, Nat.min_eq_right (by omega), Nat.min_eq_right (by omega)]
        have hn1 := h1d.put 1 (.int .u64 (leNat ((d.drop 8).take (k + 1 - 8)) : Int))
        rw [← hU0] at hn1
        have hn0 := h0d.far (p := ⟨w.heap.size + 1, 1, none⟩) (by show w.heap.size ≠ w.heap.size + 1; omega) (.int .u64 (leNat ((d.drop 8).take (k + 1 - 8)) : Int))
        have kn := kkd.setCell (p := ⟨w.heap.size + 1, 1, none⟩) (.inr (by show w.heap.size ≤ w.heap.size + 1; omega)) (.int .u64 (leNat ((d.drop 8).take (k + 1 - 8)) : Int))
        rw [hval]
        refine ⟨⟨k + 1, by omega, by go_num, Lib.hid hn1, Lib.hid hn0, Lib.hid kn⟩, ?_⟩
        first | (simp [RowKit.intOf]; done) | (simp [RowKit.intOf]; omega)
    · have hkK : k = K := by omega
      subst hkK
      have h0 := H0.out
      have b0 : wr.cell? ⟨w.heap.size, 0, none⟩ = some (.int .u64 0) := h0.cell 0
      have b1 : wr.cell? ⟨w.heap.size, 1, none⟩ = some (.int .u64 0) := h0.cell 1
      have b2 : wr.cell? ⟨w.heap.size, 2, none⟩ = some (.slice none 0 0) := h0.cell 2
      have b3 : wr.cell? ⟨w.heap.size, 3, none⟩ = some (.bool false) := h0.cell 3
      have y0 : wr.frozen? ⟨w.heap.size, 0, none⟩ = false := h0.frozen 0
      have y1 : wr.frozen? ⟨w.heap.size, 1, none⟩ = false := h0.frozen 1
      have y2 : wr.frozen? ⟨w.heap.size, 2, none⟩ = false := h0.frozen 2
      have y3 : wr.frozen? ⟨w.heap.size, 3, none⟩ = false := h0.frozen 3
      have bl := h0.lt
      clear h1
      go_wp2_with fail
      have r1 := (((h0.put 0 (.int .u64 (U : Int))).put 1 (.int .u64 (V : Int))).put 2 (.slice none 0 0)).put 3 (.bool false)
      have hld := run_loadVar_row (P := Tryd.prog) _ w.heap.size 34 34 _ (0, 0) _ r1 Tryd.underlying34 rfl infoGot
      have kn := (((HKK.out.setCell (p := ⟨w.heap.size, 0, none⟩) (.inr (Nat.le_refl _)) (.int .u64 (U : Int))).setCell (p := ⟨w.heap.size, 1, none⟩) (.inr (Nat.le_refl _)) (.int .u64 (V : Int))).setCell (p := ⟨w.heap.size, 2, none⟩) (.inr (Nat.le_refl _)) (.slice none 0 0)).setCell (p := ⟨w.heap.size, 3, none⟩) (.inr (Nat.le_refl _)) (.bool false)
      exact bodyPost_ret (results_cell1 rfl _ ⟨w.heap.size, 0, none⟩ _ _ rfl hld) rfl ⟨by rw [HUV.out.1, HUV.out.2]; rfl, kn⟩

end Go.Proofs.YthfoleapdmpdfaaDoor
