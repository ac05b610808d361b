/- Contracts of what a reader reads: numbers of a fixed width, or an error. Conditions as in the text of the reader. -/
import Derived.Test.YtpcjifhklofofaaRdr
import Derived.Test.YtpcjifhklofofaaGet
import Derived.Deep.RegionWith
namespace Go.Proofs.Ytpcjifhklofofaa
open Go.RowKit

/-- Any error of the package: it is not nil. -/
def IsErr (v : Value) : Prop := ∃ a, v = .iface 109 (.pointer (some a))

theorem rdr_end {w : World} {base rb bb : Nat} {A : Option Addr} {c : Nat} {d : List UInt8} {C : Option Addr} {n k : Nat} {q : List Value} (hR : RdrAt w base rb bb A c d C n k q) (D : Option Nat) :
    RdrGo w (w.setCell ⟨rb, 0, none⟩ (.slice none 0 0)) base rb bb D (ob C) [] := by
  have hk : Keeps (fun i => i = rb) w (w.setCell ⟨rb, 0, none⟩ (.slice none 0 0)) := (Keeps.refl (fun i => i = rb) w).setCell (.inl rfl) _
  obtain ⟨f1, f2, f3⟩ := hR.farC
  refine ⟨⟨ob C, ⟨none, 0, C, n, k, q, ⟨hR.rdr.put 0 _, hR.blk.keeps hk (Ne.symm f3), own_keeps hR.own hk ?_, Rd.none', Nat.le_refl _, hR.lo1, hR.lo2, fun i hi => by cases hi⟩, .inr rfl, rfl⟩, .inl rfl⟩, hk.mono fun _ _ h => .inl h⟩
  rw [ownBlock_slice]
  rintro i hi rfl
  exact f1 hi

set_option maxHeartbeats 400000 in
theorem readFull_err (w : World) (base rb bb : Nat) (D R : Option Nat) (d : List UInt8) (m : Nat) (hR : RdrOn w base rb bb D R d) (hm : d.length < m) :
    Calls Try.prog 73 #[.pointer (some ⟨rb, 0, none⟩), .int .i64 m] w fun e w' => ∃ v, e = .returned v ∧ IsErr v ∧ RdrGo w w' base rb bb D R [] := by
  obtain ⟨A, c, C, n, k, q, hA, hD, rfl⟩ := hR
  have hc0 : w.cell? ⟨rb, 0, none⟩ = some (.slice A d.length c) := hA.rdr.cell 0
  have hf0 : w.frozen? ⟨rb, 0, none⟩ = false := hA.rdr.frozen 0
  have hmi : (d.length : Int) < (m : Int) := by omega
  have hlt := hA.rdr.lt
  go_enter Try.func73, Try.ntmps73
  go_wp2
  go_ret
  refine ⟨_, rfl, ⟨_, rfl⟩, (rdr_end hA D).after ?_⟩
  exact ((Keeps.refl _ _).alloc _).alloc _



set_option maxHeartbeats 400000 in
theorem readByte_err (w : World) (base rb bb : Nat) (D R : Option Nat) (d : List UInt8) (hR : RdrOn w base rb bb D R d) (hd : d.length < 1) :
    Calls Try.prog 72 #[.pointer (some ⟨rb, 0, none⟩)] w fun e w' => ∃ v, e = .returned (.tuple #[.int .u8 0, v]) ∧ IsErr v ∧ RdrGo w w' base rb bb D R [] := by
  go_enter Try.func72, Try.ntmps72
  go_wp2_with fail
  refine (readFull_err w base rb bb D R d 1 hR hd).mono ?_
  rintro e w1 ⟨v, rfl, ⟨a, rfl⟩, hG⟩
  go_wp2
  go_ret2
  exact ⟨_, rfl, ⟨_, rfl⟩, hG⟩

set_option maxHeartbeats 400000 in
theorem readByte_ok (w : World) (base rb bb : Nat) (D R : Option Nat) (b : UInt8) (d : List UInt8) (hR : RdrOn w base rb bb D R (b :: d)) :
    Calls Try.prog 72 #[.pointer (some ⟨rb, 0, none⟩)] w fun e w' => e = .returned (.tuple #[.int .u8 b.toNat, .nilIface]) ∧ RdrGo w w' base rb bb D R d := by
  obtain ⟨A, c, C, n, k, q, hA, hD, rfl⟩ := hR
  go_enter Try.func72, Try.ntmps72
  go_wp2_with fail
  refine (readFull_ok w base rb bb A c (b :: d) C n k 1 q hA (by simp) (by omega)).mono ?_
  rintro e w1 ⟨A1, c1, C1, k1, rfl, hR1, hK1, hA1, hC1⟩
  have hc1 : w1.cell? ⟨rb, 1, none⟩ = some (.pointer (some ⟨bb, 0, none⟩)) := hR1.rdr.cell 1
  have hc2 : w1.cell? ⟨bb, 0, none⟩ = some (.slice C1 1 k1) := hR1.blk.cell 0
  obtain ⟨g, cap, hv, hgl, hgh⟩ := hR1.own.form (by omega)
  injection hv with hv1 hv2 hv3
  subst hv1 hv3
  have hc3 : w1.cell? ⟨g, 0, none⟩ = some (.int .u8 b.toNat) := by
    rw [hR1.own.cellAt 0 (by omega)]
    rfl
  clear hv2
  go_wp2_with fail
  go_ret2
  exact ⟨rfl, ⟨⟨_, ⟨A1, c1, _, 1, k1, _, hR1, by rw [hA1]; exact hD, rfl⟩, hC1⟩, hK1⟩⟩








end Go.Proofs.Ytpcjifhklofofaa
