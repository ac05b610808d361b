/- Contracts of what a reader reads: numbers of a fixed width, or an error. Conditions as in the text of the reader. -/
import Derived.Test.YthfoleapdmpdfaaDoorRdr
import Derived.Test.YthfoleapdmpdfaaDoorGet
import Derived.Deep.RegionWith
namespace Go.Proofs.YthfoleapdmpdfaaDoor
open Go.RowKit

/-- Any error of the package: it is not nil. -/
def IsErr (v : Value) : Prop := ∃ a, v = .iface 153 (.pointer (some a))

theorem rdr_end {w : World} {base rb bb : Nat} {A : Option Addr} {c : Nat} {d : List UInt8} {C : Option Addr} {n k : Nat} {q : List Value} (hR : RdrAt w base rb bb A c d C n k q) (D : Option Nat) :
    RdrGo w (w.setCell ⟨rb, 0, none⟩ (.slice none 0 0)) base rb bb D (ob C) [] := by
  have hk : Keeps (fun i => i = rb) w (w.setCell ⟨rb, 0, none⟩ (.slice none 0 0)) := (Keeps.refl (fun i => i = rb) w).setCell (.inl rfl) _
  obtain ⟨f1, f2, f3⟩ := hR.farC
  refine ⟨⟨ob C, ⟨none, 0, C, n, k, q, ⟨hR.rdr.put 0 _, hR.blk.keeps hk (Ne.symm f3), own_keeps hR.own hk ?_, Rd.none', Nat.le_refl _, hR.lo1, hR.lo2, fun i hi => by cases hi⟩, .inr rfl, rfl⟩, .inl rfl⟩, hk.mono fun _ _ h => .inl h⟩
  rw [ownBlock_slice]
  rintro i hi rfl
  exact f1 hi

set_option maxHeartbeats 400000 in
theorem readFull_err (w : World) (base rb bb : Nat) (D R : Option Nat) (d : List UInt8) (m : Nat) (hR : RdrOn w base rb bb D R d) (hm : d.length < m) :
    Calls Tryd.prog 70 #[.pointer (some ⟨rb, 0, none⟩), .int .i64 m] w fun e w' => ∃ v, e = .returned v ∧ IsErr v ∧ RdrGo w w' base rb bb D R [] := by
  obtain ⟨A, c, C, n, k, q, hA, hD, rfl⟩ := hR
  have hc0 : w.cell? ⟨rb, 0, none⟩ = some (.slice A d.length c) := hA.rdr.cell 0
  have hf0 : w.frozen? ⟨rb, 0, none⟩ = false := hA.rdr.frozen 0
  have hmi : (d.length : Int) < (m : Int) := by omega
  have hlt := hA.rdr.lt
  go_enter Tryd.func70, Tryd.ntmps70
  go_wp2
  go_ret
  refine ⟨_, rfl, ⟨_, rfl⟩, (rdr_end hA D).after ?_⟩
  exact ((Keeps.refl _ _).alloc _).alloc _

set_option maxHeartbeats 400000 in
theorem uint8_ok (w : World) (base rb bb : Nat) (D R : Option Nat) (b : UInt8) (d : List UInt8) (hR : RdrOn w base rb bb D R (b :: d)) :
    Calls Tryd.prog 43 #[.pointer (some ⟨rb, 0, none⟩)] w fun e w' => e = .returned (.tuple #[.int .u8 b.toNat, .nilIface]) ∧ RdrGo w w' base rb bb D R d := by
  obtain ⟨A, c, C, n, k, q, hA, hD, rfl⟩ := hR
  go_enter Tryd.func43, Tryd.ntmps43
  go_wp2_with fail
  refine (readFull_ok w base rb bb A c (b :: d) C n k 1 q hA (by simp) (by omega)).mono ?_
  rintro e w1 ⟨A1, c1, C1, k1, rfl, hR1, hK1, hA1, hC1⟩
  have hc1 : w1.cell? ⟨rb, 1, none⟩ = some (.pointer (some ⟨bb, 0, none⟩)) := hR1.rdr.cell 1
  have hc2 : w1.cell? ⟨bb, 0, none⟩ = some (.slice C1 1 k1) := hR1.blk.cell 0
  obtain ⟨g, cap, hv, hgl, hgh⟩ := hR1.own.form (by omega)
  injection hv with hv1 hv2 hv3
  subst hv1 hv3
  have hc3 : w1.cell? ⟨g, 0, none⟩ = some (.int .u8 b.toNat) := by
    rw [hR1.own.cellAt 0 (by omega)]
    rfl
  clear hv2
  go_wp2_with fail
  go_ret2
  exact ⟨rfl, ⟨⟨_, ⟨A1, c1, _, 1, k1, _, hR1, by rw [hA1]; exact hD, rfl⟩, hC1⟩, hK1⟩⟩

set_option maxHeartbeats 400000 in
theorem uint8_err (w : World) (base rb bb : Nat) (D R : Option Nat) (d : List UInt8) (hR : RdrOn w base rb bb D R d) (hd : d.length < 1) :
    Calls Tryd.prog 43 #[.pointer (some ⟨rb, 0, none⟩)] w fun e w' => ∃ v, e = .returned (.tuple #[.int .u8 0, v]) ∧ IsErr v ∧ RdrGo w w' base rb bb D R [] := by
  go_enter Tryd.func43, Tryd.ntmps43
  go_wp2_with fail
  refine (readFull_err w base rb bb D R d 1 hR hd).mono ?_
  rintro e w1 ⟨v, rfl, ⟨a, rfl⟩, hG⟩
  go_wp2
  go_ret2
  exact ⟨_, rfl, ⟨_, rfl⟩, hG.after ((Keeps.refl _ _).alloc _)⟩

set_option maxHeartbeats 400000 in
theorem readByte_err (w : World) (base rb bb : Nat) (D R : Option Nat) (d : List UInt8) (hR : RdrOn w base rb bb D R d) (hd : d.length < 1) :
    Calls Tryd.prog 97 #[.pointer (some ⟨rb, 0, none⟩)] w fun e w' => ∃ v, e = .returned (.tuple #[.int .u8 0, v]) ∧ IsErr v ∧ RdrGo w w' base rb bb D R [] := by
  go_enter Tryd.func97, Tryd.ntmps97
  go_wp2_with fail
  refine (readFull_err w base rb bb D R d 1 hR hd).mono ?_
  rintro e w1 ⟨v, rfl, ⟨a, rfl⟩, hG⟩
  go_wp2
  go_ret2
  exact ⟨_, rfl, ⟨_, rfl⟩, hG⟩

set_option maxHeartbeats 400000 in
theorem readByte_ok (w : World) (base rb bb : Nat) (D R : Option Nat) (b : UInt8) (d : List UInt8) (hR : RdrOn w base rb bb D R (b :: d)) :
    Calls Tryd.prog 97 #[.pointer (some ⟨rb, 0, none⟩)] w fun e w' => e = .returned (.tuple #[.int .u8 b.toNat, .nilIface]) ∧ RdrGo w w' base rb bb D R d := by
  obtain ⟨A, c, C, n, k, q, hA, hD, rfl⟩ := hR
  go_enter Tryd.func97, Tryd.ntmps97
  go_wp2_with fail
  refine (readFull_ok w base rb bb A c (b :: d) C n k 1 q hA (by simp) (by omega)).mono ?_
  rintro e w1 ⟨A1, c1, C1, k1, rfl, hR1, hK1, hA1, hC1⟩
  have hc1 : w1.cell? ⟨rb, 1, none⟩ = some (.pointer (some ⟨bb, 0, none⟩)) := hR1.rdr.cell 1
  have hc2 : w1.cell? ⟨bb, 0, none⟩ = some (.slice C1 1 k1) := hR1.blk.cell 0
  obtain ⟨g, cap, hv, hgl, hgh⟩ := hR1.own.form (by omega)
  injection hv with hv1 hv2 hv3
  subst hv1 hv3
  have hc3 : w1.cell? ⟨g, 0, none⟩ = some (.int .u8 b.toNat) := by
    rw [hR1.own.cellAt 0 (by omega)]
    rfl
  clear hv2
  go_wp2_with fail
  go_ret2
  exact ⟨rfl, ⟨⟨_, ⟨A1, c1, _, 1, k1, _, hR1, by rw [hA1]; exact hD, rfl⟩, hC1⟩, hK1⟩⟩



theorem len2 {l : List UInt8} (h : l.length = 2) : ∃ b0 b1, l = [b0, b1] := by
  match l, h with
  | [b0, b1], _ => exact ⟨b0, b1, rfl⟩
set_option maxHeartbeats 400000 in
theorem uint16_ok (w : World) (base rb bb : Nat) (D R : Option Nat) (l d : List UInt8) (hl : l.length = 2) (hR : RdrOn w base rb bb D R (l ++ d)) :
    Calls Tryd.prog 44 #[.pointer (some ⟨rb, 0, none⟩)] w fun e w' => e = .returned (.tuple #[.int .u16 (Lib.leNat l), .nilIface]) ∧ RdrGo w w' base rb bb D R d := by
  obtain ⟨b0, b1, rfl⟩ := len2 hl
  clear hl
  obtain ⟨A, c, C, n, k, q, hA, hD, rfl⟩ := hR
  go_enter Tryd.func44, Tryd.ntmps44
  go_wp2_with fail
  refine (readFull_ok w base rb bb A c ([b0, b1] ++ d) C n k 2 q hA (by simp) (by omega)).mono ?_
  rintro e w1 ⟨A1, c1, C1, k1, rfl, hR1, hK1, hA1, hC1⟩
  have hc1 : w1.cell? ⟨rb, 1, none⟩ = some (.pointer (some ⟨bb, 0, none⟩)) := hR1.rdr.cell 1
  have hc2 : w1.cell? ⟨bb, 0, none⟩ = some (.slice C1 2 k1) := hR1.blk.cell 0
  obtain ⟨g, cap, hv, hgl, hgh⟩ := hR1.own.form (by omega)
  injection hv with hv1 hv2 hv3
  subst hv1 hv3
  have hown := hR1.own
  have q0 : w1.cell? ⟨g, 0, none⟩ = some (.int .u8 b0.toNat) := by rw [hown.cellAt 0 (by omega)]; rfl
  have q1 : w1.cell? ⟨g, 0 + 1, none⟩ = some (.int .u8 b1.toNat) := by rw [Nat.zero_add, hown.cellAt 1 (by omega)]; rfl
  have hG : RdrGo w w1 base rb bb D (ob C) d := ⟨⟨_, ⟨A1, c1, _, 2, k1, _, hR1, by rw [hA1]; exact hD, rfl⟩, hC1⟩, hK1⟩
  clear hv2 hown hR1 hK1 hC1 hA1 hA hD
  go_wp2_with fail
  go_region_with (go_at_call 71; refine (leGet16 _ g 0 2 k1 b0 b1 (by omega) (by exact q0) (by exact q1)).mono ?_; rintro e w2 ⟨rfl, hK2⟩)
  all_goals (go_wp2_with fail; go_ret2; exact ⟨rfl, hG.after ((Keeps.refl _ _).drew.trans hK2 (fun _ _ h => h))⟩)

set_option maxHeartbeats 400000 in
theorem uint16_err (w : World) (base rb bb : Nat) (D R : Option Nat) (d : List UInt8) (hR : RdrOn w base rb bb D R d) (hd : d.length < 2) :
    Calls Tryd.prog 44 #[.pointer (some ⟨rb, 0, none⟩)] w fun e w' => ∃ v, e = .returned (.tuple #[.int .u16 0, v]) ∧ IsErr v ∧ RdrGo w w' base rb bb D R [] := by
  go_enter Tryd.func44, Tryd.ntmps44
  go_wp2_with fail
  refine (readFull_err w base rb bb D R d 2 hR hd).mono ?_
  rintro e w1 ⟨v, rfl, ⟨a, rfl⟩, hG⟩
  go_wp2
  go_ret2
  exact ⟨_, rfl, ⟨_, rfl⟩, hG.after ((Keeps.refl _ _).alloc _)⟩

theorem len4 {l : List UInt8} (h : l.length = 4) : ∃ b0 b1 b2 b3, l = [b0, b1, b2, b3] := by
  match l, h with
  | [b0, b1, b2, b3], _ => exact ⟨b0, b1, b2, b3, rfl⟩
set_option maxHeartbeats 400000 in
theorem uint32_ok (w : World) (base rb bb : Nat) (D R : Option Nat) (l d : List UInt8) (hl : l.length = 4) (hR : RdrOn w base rb bb D R (l ++ d)) :
    Calls Tryd.prog 45 #[.pointer (some ⟨rb, 0, none⟩)] w fun e w' => e = .returned (.tuple #[.int .u32 (Lib.leNat l), .nilIface]) ∧ RdrGo w w' base rb bb D R d := by
  obtain ⟨b0, b1, b2, b3, rfl⟩ := len4 hl
  clear hl
  obtain ⟨A, c, C, n, k, q, hA, hD, rfl⟩ := hR
  go_enter Tryd.func45, Tryd.ntmps45
  go_wp2_with fail
  refine (readFull_ok w base rb bb A c ([b0, b1, b2, b3] ++ d) C n k 4 q hA (by simp) (by omega)).mono ?_
  rintro e w1 ⟨A1, c1, C1, k1, rfl, hR1, hK1, hA1, hC1⟩
  have hc1 : w1.cell? ⟨rb, 1, none⟩ = some (.pointer (some ⟨bb, 0, none⟩)) := hR1.rdr.cell 1
  have hc2 : w1.cell? ⟨bb, 0, none⟩ = some (.slice C1 4 k1) := hR1.blk.cell 0
  obtain ⟨g, cap, hv, hgl, hgh⟩ := hR1.own.form (by omega)
  injection hv with hv1 hv2 hv3
  subst hv1 hv3
  have hown := hR1.own
  have q0 : w1.cell? ⟨g, 0, none⟩ = some (.int .u8 b0.toNat) := by rw [hown.cellAt 0 (by omega)]; rfl
  have q1 : w1.cell? ⟨g, 0 + 1, none⟩ = some (.int .u8 b1.toNat) := by rw [Nat.zero_add, hown.cellAt 1 (by omega)]; rfl
  have q2 : w1.cell? ⟨g, 0 + 2, none⟩ = some (.int .u8 b2.toNat) := by rw [Nat.zero_add, hown.cellAt 2 (by omega)]; rfl
  have q3 : w1.cell? ⟨g, 0 + 3, none⟩ = some (.int .u8 b3.toNat) := by rw [Nat.zero_add, hown.cellAt 3 (by omega)]; rfl
  have hG : RdrGo w w1 base rb bb D (ob C) d := ⟨⟨_, ⟨A1, c1, _, 4, k1, _, hR1, by rw [hA1]; exact hD, rfl⟩, hC1⟩, hK1⟩
  clear hv2 hown hR1 hK1 hC1 hA1 hA hD
  go_wp2_with fail
  go_region_with (go_at_call 72; refine (leGet32 _ g 0 4 k1 b0 b1 b2 b3 (by omega) (by exact q0) (by exact q1) (by exact q2) (by exact q3)).mono ?_; rintro e w2 ⟨rfl, hK2⟩)
  all_goals (go_wp2_with fail; go_ret2; exact ⟨rfl, hG.after ((Keeps.refl _ _).drew.trans hK2 (fun _ _ h => h))⟩)

set_option maxHeartbeats 400000 in
theorem uint32_err (w : World) (base rb bb : Nat) (D R : Option Nat) (d : List UInt8) (hR : RdrOn w base rb bb D R d) (hd : d.length < 4) :
    Calls Tryd.prog 45 #[.pointer (some ⟨rb, 0, none⟩)] w fun e w' => ∃ v, e = .returned (.tuple #[.int .u32 0, v]) ∧ IsErr v ∧ RdrGo w w' base rb bb D R [] := by
  go_enter Tryd.func45, Tryd.ntmps45
  go_wp2_with fail
  refine (readFull_err w base rb bb D R d 4 hR hd).mono ?_
  rintro e w1 ⟨v, rfl, ⟨a, rfl⟩, hG⟩
  go_wp2
  go_ret2
  exact ⟨_, rfl, ⟨_, rfl⟩, hG.after ((Keeps.refl _ _).alloc _)⟩

theorem len8 {l : List UInt8} (h : l.length = 8) : ∃ b0 b1 b2 b3 b4 b5 b6 b7, l = [b0, b1, b2, b3, b4, b5, b6, b7] := by
  match l, h with
  | [b0, b1, b2, b3, b4, b5, b6, b7], _ => exact ⟨b0, b1, b2, b3, b4, b5, b6, b7, rfl⟩
set_option maxHeartbeats 400000 in
theorem uint64_ok (w : World) (base rb bb : Nat) (D R : Option Nat) (l d : List UInt8) (hl : l.length = 8) (hR : RdrOn w base rb bb D R (l ++ d)) :
    Calls Tryd.prog 46 #[.pointer (some ⟨rb, 0, none⟩)] w fun e w' => e = .returned (.tuple #[.int .u64 (Lib.leNat l), .nilIface]) ∧ RdrGo w w' base rb bb D R d := by
  obtain ⟨b0, b1, b2, b3, b4, b5, b6, b7, rfl⟩ := len8 hl
  clear hl
  obtain ⟨A, c, C, n, k, q, hA, hD, rfl⟩ := hR
  go_enter Tryd.func46, Tryd.ntmps46
  go_wp2_with fail
  refine (readFull_ok w base rb bb A c ([b0, b1, b2, b3, b4, b5, b6, b7] ++ d) C n k 8 q hA (by simp) (by omega)).mono ?_
  rintro e w1 ⟨A1, c1, C1, k1, rfl, hR1, hK1, hA1, hC1⟩
  have hc1 : w1.cell? ⟨rb, 1, none⟩ = some (.pointer (some ⟨bb, 0, none⟩)) := hR1.rdr.cell 1
  have hc2 : w1.cell? ⟨bb, 0, none⟩ = some (.slice C1 8 k1) := hR1.blk.cell 0
  obtain ⟨g, cap, hv, hgl, hgh⟩ := hR1.own.form (by omega)
  injection hv with hv1 hv2 hv3
  subst hv1 hv3
  have hown := hR1.own
  have q0 : w1.cell? ⟨g, 0, none⟩ = some (.int .u8 b0.toNat) := by rw [hown.cellAt 0 (by omega)]; rfl
  have q1 : w1.cell? ⟨g, 0 + 1, none⟩ = some (.int .u8 b1.toNat) := by rw [Nat.zero_add, hown.cellAt 1 (by omega)]; rfl
  have q2 : w1.cell? ⟨g, 0 + 2, none⟩ = some (.int .u8 b2.toNat) := by rw [Nat.zero_add, hown.cellAt 2 (by omega)]; rfl
  have q3 : w1.cell? ⟨g, 0 + 3, none⟩ = some (.int .u8 b3.toNat) := by rw [Nat.zero_add, hown.cellAt 3 (by omega)]; rfl
  have q4 : w1.cell? ⟨g, 0 + 4, none⟩ = some (.int .u8 b4.toNat) := by rw [Nat.zero_add, hown.cellAt 4 (by omega)]; rfl
  have q5 : w1.cell? ⟨g, 0 + 5, none⟩ = some (.int .u8 b5.toNat) := by rw [Nat.zero_add, hown.cellAt 5 (by omega)]; rfl
  have q6 : w1.cell? ⟨g, 0 + 6, none⟩ = some (.int .u8 b6.toNat) := by rw [Nat.zero_add, hown.cellAt 6 (by omega)]; rfl
  have q7 : w1.cell? ⟨g, 0 + 7, none⟩ = some (.int .u8 b7.toNat) := by rw [Nat.zero_add, hown.cellAt 7 (by omega)]; rfl
  have hG : RdrGo w w1 base rb bb D (ob C) d := ⟨⟨_, ⟨A1, c1, _, 8, k1, _, hR1, by rw [hA1]; exact hD, rfl⟩, hC1⟩, hK1⟩
  clear hv2 hown hR1 hK1 hC1 hA1 hA hD
  go_wp2_with fail
  go_region_with (go_at_call 73; refine (leGet64 _ g 0 8 k1 b0 b1 b2 b3 b4 b5 b6 b7 (by omega) (by exact q0) (by exact q1) (by exact q2) (by exact q3) (by exact q4) (by exact q5) (by exact q6) (by exact q7)).mono ?_; rintro e w2 ⟨rfl, hK2⟩)
  all_goals (go_wp2_with fail; go_ret2; exact ⟨rfl, hG.after ((Keeps.refl _ _).drew.trans hK2 (fun _ _ h => h))⟩)

set_option maxHeartbeats 400000 in
theorem uint64_err (w : World) (base rb bb : Nat) (D R : Option Nat) (d : List UInt8) (hR : RdrOn w base rb bb D R d) (hd : d.length < 8) :
    Calls Tryd.prog 46 #[.pointer (some ⟨rb, 0, none⟩)] w fun e w' => ∃ v, e = .returned (.tuple #[.int .u64 0, v]) ∧ IsErr v ∧ RdrGo w w' base rb bb D R [] := by
  go_enter Tryd.func46, Tryd.ntmps46
  go_wp2_with fail
  refine (readFull_err w base rb bb D R d 8 hR hd).mono ?_
  rintro e w1 ⟨v, rfl, ⟨a, rfl⟩, hG⟩
  go_wp2
  go_ret2
  exact ⟨_, rfl, ⟨_, rfl⟩, hG.after ((Keeps.refl _ _).alloc _)⟩
end Go.Proofs.YthfoleapdmpdfaaDoor
