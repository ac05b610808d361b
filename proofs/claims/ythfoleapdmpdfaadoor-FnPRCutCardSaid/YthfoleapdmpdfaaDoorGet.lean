/- Contracts of the little-endian loads of Go's library. Conditions: the cells that are read are bytes. -/
import Derived.Test.YthfoleapdmpdfaaDoorMem
import Derived.Test.YthfoleapdmpdfaaDoorRows
import Derived.WalkSpells
import Derived.WalkLawsBesides
import Derived.Deep.QuietTactic
import Derived.BigQuiet
import Derived.Lib.EndianMore
import Derived.Lib.EndianBits
namespace Go.Proofs.YthfoleapdmpdfaaDoor
open Go.RowKit
theorem ret_int {k : IntKind} {a b : Int} (h : a = b) : Ending.returned (.int k a) = .returned (.int k b) := by rw [h]
set_option maxRecDepth 100000 in
set_option maxHeartbeats 1000000 in
theorem leGet16 (w : World) (g o n c : Nat) (b0 b1 : UInt8) (hn : 2 ≤ n) (c0 : w.cell? ⟨g, o, none⟩ = some (.int .u8 b0.toNat)) (c1 : w.cell? ⟨g, o + 1, none⟩ = some (.int .u8 b1.toNat)) :
    Calls Tryd.prog 71 #[.agg #[], .slice (some ⟨g, o, none⟩) n c] w fun e w' => e = .returned (.int .u16 (Lib.leNat [b0, b1])) ∧ Keeps (fun _ => False) w w' := by
  have hni : (2 : Int) ≤ (n : Int) := by omega
  have hi0 : (0 : Int) < (n : Int) := by omega
  have hi1 : (1 : Int) < (n : Int) := by omega
  have h0n : 0 < n := by omega
  have hlt : g < w.heap.size := World.block_lt_of_cell? w _ c0
  have l0 := b0.toNat_lt
  have l1 := b1.toNat_lt
  have hv : Lib.leNat [b0, b1] = b0.toNat + 256 * b1.toNat := by simp only [Lib.leNat]; omega
  have HV := Lib.hid hv
  clear hv
  generalize b0.toNat = x0 at *
  generalize b1.toNat = x1 at *
  go_enter Tryd.func71, Tryd.ntmps71
  go_wp2_with fail
  go_quiet (fail)
  go_wp2_with fail
  go_ret
  have r1 : Go.bits .or .u16 ((x0 : Int)) ((x1 : Int) * 256) = (x0 : Int) + (x1 : Int) * 256 := u16_or8 _ _ (by omega) (by omega) (by omega) (by omega) (by omega)
  rw [HV.out]
  exact ⟨ret_int (by rw [r1]; omega), ((Keeps.refl _ _).alloc _).drewN _⟩
set_option maxRecDepth 100000 in
set_option maxHeartbeats 1000000 in
theorem leGet32 (w : World) (g o n c : Nat) (b0 b1 b2 b3 : UInt8) (hn : 4 ≤ n) (c0 : w.cell? ⟨g, o, none⟩ = some (.int .u8 b0.toNat)) (c1 : w.cell? ⟨g, o + 1, none⟩ = some (.int .u8 b1.toNat)) (c2 : w.cell? ⟨g, o + 2, none⟩ = some (.int .u8 b2.toNat)) (c3 : w.cell? ⟨g, o + 3, none⟩ = some (.int .u8 b3.toNat)) :
    Calls Tryd.prog 72 #[.agg #[], .slice (some ⟨g, o, none⟩) n c] w fun e w' => e = .returned (.int .u32 (Lib.leNat [b0, b1, b2, b3])) ∧ Keeps (fun _ => False) w w' := by
  have hni : (4 : Int) ≤ (n : Int) := by omega
  have hi0 : (0 : Int) < (n : Int) := by omega
  have hi1 : (1 : Int) < (n : Int) := by omega
  have hi2 : (2 : Int) < (n : Int) := by omega
  have hi3 : (3 : Int) < (n : Int) := by omega
  have h0n : 0 < n := by omega
  have hlt : g < w.heap.size := World.block_lt_of_cell? w _ c0
  have l0 := b0.toNat_lt
  have l1 := b1.toNat_lt
  have l2 := b2.toNat_lt
  have l3 := b3.toNat_lt
  have hv : Lib.leNat [b0, b1, b2, b3] = b0.toNat + 256 * b1.toNat + 65536 * b2.toNat + 16777216 * b3.toNat := by simp only [Lib.leNat]; omega
  have HV := Lib.hid hv
  clear hv
  generalize b0.toNat = x0 at *
  generalize b1.toNat = x1 at *
  generalize b2.toNat = x2 at *
  generalize b3.toNat = x3 at *
  go_enter Tryd.func72, Tryd.ntmps72
  go_wp2_with fail
  go_quiet (fail)
  go_wp2_with fail
  go_ret
  have r1 : Go.bits .or .u32 ((x0 : Int)) ((x1 : Int) * 256) = (x0 : Int) + (x1 : Int) * 256 := u32_or8 _ _ (by omega) (by omega) (by omega) (by omega) (by omega)
  have r2 : Go.bits .or .u32 ((x0 : Int) + (x1 : Int) * 256) ((x2 : Int) * 65536) = (x0 : Int) + (x1 : Int) * 256 + (x2 : Int) * 65536 := u32_or16 _ _ (by omega) (by omega) (by omega) (by omega) (by omega)
  have r3 : Go.bits .or .u32 ((x0 : Int) + (x1 : Int) * 256 + (x2 : Int) * 65536) ((x3 : Int) * 16777216) = (x0 : Int) + (x1 : Int) * 256 + (x2 : Int) * 65536 + (x3 : Int) * 16777216 := u32_or24 _ _ (by omega) (by omega) (by omega) (by omega) (by omega)
  rw [HV.out]
  exact ⟨ret_int (by rw [r1, r2, r3]; omega), ((Keeps.refl _ _).alloc _).drewN _⟩
set_option maxRecDepth 100000 in
set_option maxHeartbeats 1000000 in
theorem leGet64 (w : World) (g o n c : Nat) (b0 b1 b2 b3 b4 b5 b6 b7 : UInt8) (hn : 8 ≤ n) (c0 : w.cell? ⟨g, o, none⟩ = some (.int .u8 b0.toNat)) (c1 : w.cell? ⟨g, o + 1, none⟩ = some (.int .u8 b1.toNat)) (c2 : w.cell? ⟨g, o + 2, none⟩ = some (.int .u8 b2.toNat)) (c3 : w.cell? ⟨g, o + 3, none⟩ = some (.int .u8 b3.toNat)) (c4 : w.cell? ⟨g, o + 4, none⟩ = some (.int .u8 b4.toNat)) (c5 : w.cell? ⟨g, o + 5, none⟩ = some (.int .u8 b5.toNat)) (c6 : w.cell? ⟨g, o + 6, none⟩ = some (.int .u8 b6.toNat)) (c7 : w.cell? ⟨g, o + 7, none⟩ = some (.int .u8 b7.toNat)) :
    Calls Tryd.prog 73 #[.agg #[], .slice (some ⟨g, o, none⟩) n c] w fun e w' => e = .returned (.int .u64 (Lib.leNat [b0, b1, b2, b3, b4, b5, b6, b7])) ∧ Keeps (fun _ => False) w w' := by
  have hni : (8 : Int) ≤ (n : Int) := by omega
  have hi0 : (0 : Int) < (n : Int) := by omega
  have hi1 : (1 : Int) < (n : Int) := by omega
  have hi2 : (2 : Int) < (n : Int) := by omega
  have hi3 : (3 : Int) < (n : Int) := by omega
  have hi4 : (4 : Int) < (n : Int) := by omega
  have hi5 : (5 : Int) < (n : Int) := by omega
  have hi6 : (6 : Int) < (n : Int) := by omega
  have hi7 : (7 : Int) < (n : Int) := by omega
  have h0n : 0 < n := by omega
  have hlt : g < w.heap.size := World.block_lt_of_cell? w _ c0
  have l0 := b0.toNat_lt
  have l1 := b1.toNat_lt
  have l2 := b2.toNat_lt
  have l3 := b3.toNat_lt
  have l4 := b4.toNat_lt
  have l5 := b5.toNat_lt
  have l6 := b6.toNat_lt
  have l7 := b7.toNat_lt
  have hv : Lib.leNat [b0, b1, b2, b3, b4, b5, b6, b7] = b0.toNat + 256 * b1.toNat + 65536 * b2.toNat + 16777216 * b3.toNat + 4294967296 * b4.toNat + 1099511627776 * b5.toNat + 281474976710656 * b6.toNat + 72057594037927936 * b7.toNat := by simp only [Lib.leNat]; omega
  have HV := Lib.hid hv
  clear hv
  generalize b0.toNat = x0 at *
  generalize b1.toNat = x1 at *
  generalize b2.toNat = x2 at *
  generalize b3.toNat = x3 at *
  generalize b4.toNat = x4 at *
  generalize b5.toNat = x5 at *
  generalize b6.toNat = x6 at *
  generalize b7.toNat = x7 at *
  go_enter Tryd.func73, Tryd.ntmps73
  go_wp2_with fail
  go_quiet (fail)
  go_wp2_with fail
  go_ret
  have r1 : Go.bits .or .u64 ((x0 : Int)) ((x1 : Int) * 256) = (x0 : Int) + (x1 : Int) * 256 := u64_or8 _ _ (by omega) (by omega) (by omega) (by omega) (by omega)
  have r2 : Go.bits .or .u64 ((x0 : Int) + (x1 : Int) * 256) ((x2 : Int) * 65536) = (x0 : Int) + (x1 : Int) * 256 + (x2 : Int) * 65536 := u64_or16 _ _ (by omega) (by omega) (by omega) (by omega) (by omega)
  have r3 : Go.bits .or .u64 ((x0 : Int) + (x1 : Int) * 256 + (x2 : Int) * 65536) ((x3 : Int) * 16777216) = (x0 : Int) + (x1 : Int) * 256 + (x2 : Int) * 65536 + (x3 : Int) * 16777216 := u64_or24 _ _ (by omega) (by omega) (by omega) (by omega) (by omega)
  have r4 : Go.bits .or .u64 ((x0 : Int) + (x1 : Int) * 256 + (x2 : Int) * 65536 + (x3 : Int) * 16777216) ((x4 : Int) * 4294967296) = (x0 : Int) + (x1 : Int) * 256 + (x2 : Int) * 65536 + (x3 : Int) * 16777216 + (x4 : Int) * 4294967296 := u64_or32 _ _ (by omega) (by omega) (by omega) (by omega) (by omega)
  have r5 : Go.bits .or .u64 ((x0 : Int) + (x1 : Int) * 256 + (x2 : Int) * 65536 + (x3 : Int) * 16777216 + (x4 : Int) * 4294967296) ((x5 : Int) * 1099511627776) = (x0 : Int) + (x1 : Int) * 256 + (x2 : Int) * 65536 + (x3 : Int) * 16777216 + (x4 : Int) * 4294967296 + (x5 : Int) * 1099511627776 := u64_or40 _ _ (by omega) (by omega) (by omega) (by omega) (by omega)
  have r6 : Go.bits .or .u64 ((x0 : Int) + (x1 : Int) * 256 + (x2 : Int) * 65536 + (x3 : Int) * 16777216 + (x4 : Int) * 4294967296 + (x5 : Int) * 1099511627776) ((x6 : Int) * 281474976710656) = (x0 : Int) + (x1 : Int) * 256 + (x2 : Int) * 65536 + (x3 : Int) * 16777216 + (x4 : Int) * 4294967296 + (x5 : Int) * 1099511627776 + (x6 : Int) * 281474976710656 := u64_or48 _ _ (by omega) (by omega) (by omega) (by omega) (by omega)
  have r7 : Go.bits .or .u64 ((x0 : Int) + (x1 : Int) * 256 + (x2 : Int) * 65536 + (x3 : Int) * 16777216 + (x4 : Int) * 4294967296 + (x5 : Int) * 1099511627776 + (x6 : Int) * 281474976710656) ((x7 : Int) * 72057594037927936) = (x0 : Int) + (x1 : Int) * 256 + (x2 : Int) * 65536 + (x3 : Int) * 16777216 + (x4 : Int) * 4294967296 + (x5 : Int) * 1099511627776 + (x6 : Int) * 281474976710656 + (x7 : Int) * 72057594037927936 := u64_or56 _ _ (by omega) (by omega) (by omega) (by omega) (by omega)
  rw [HV.out]
  exact ⟨ret_int (by rw [r1, r2, r3, r4, r5, r6, r7]; omega), ((Keeps.refl _ _).alloc _).drewN _⟩
end Go.Proofs.YthfoleapdmpdfaaDoor
