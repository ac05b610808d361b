/- The walk of the law on varints. -/
import Derived.Test.YtllokbblmdadnaaPrOne
import Derived.Test.YtllokbblmdadnaaEq
import Derived.Deep.RegionHeld3
namespace Go.Proofs.Ytllokbblmdadnaa
open Go.RowKit
theorem byteCells_ofNat (n : Nat) : Lib.byteCells [n.toUInt8] = [Value.int .u8 ((n : Int) % 256)] := by
  simp [Lib.byteCells, Nat.toUInt8, UInt8.toNat_ofNat']

attribute [local irreducible] Go.bits
set_option maxRecDepth 100000 in
set_option maxHeartbeats 4000000 in
theorem prvars (x : Nat) (hx : x < 18446744073709551616) (w : World) :
    Calls Try.prog 13 #[.int .u64 x] w fun e w' => e = .returned (.bool true) ∧ Below w.heap.size w w' := by
  by_cases h : x < 128
  · have hu := Lib.uvarint_small h
    have HU := Lib.hid hu
    clear hu
    have hm : (x : Int) % 256 = x := by omega
    have HM := Lib.hid hm
    clear hm
    go_enter Try.func13, Try.ntmps13
    go_wp2_with fail
    refine (prPutOne _ w.heap.size 1 x hx (by exact Whole.new w _ _)).mono ?_
    rintro e w1 ⟨A, c, rfl, hown, hK, hA⟩
    rw [World.size_alloc] at hown hA
    have hB1 : Below w.heap.size w w1 := (((Keeps.refl (fun _ => False) w).alloc _).trans hK (fun _ _ h => h)).below (Nat.le_refl _) (fun _ h => h.elim)
    clear hK
    go_wp2_with fail
    have hR2 : Rd (w1.alloc (.cells #[.int .u8 x] 5)) 1 (some ⟨w1.heap.size, 0, none⟩) 1 (Lib.byteCells [x.toUInt8]) :=
      Rd.whole (Whole.new _ _ _) (by rw [byteCells_ofNat, HM.out]) (by rfl)
    refine (bytesEq _ A _ _ _ _ _ (Lib.uvarint x) [x.toUInt8] (Rd.alloc (Rd.own hown) _) hR2).mono ?_
    rintro e w2 ⟨rfl, rfl⟩
    go_wp2_with fail
    go_ret
    exact ⟨by rw [HU.out]; simp, hB1.alloc hB1.size _⟩
  · have hu := Lib.uvarint_big (x := x) (by omega)
    have hlen : 1 < (Lib.uvarint x).length := by rw [hu]; have := Lib.uvarint_pos (x / 128); simp; omega
    have HU := Lib.hid hu
    clear hu
    go_enter Try.func13, Try.ntmps13
    go_wp2_with fail
    refine (prPutOne _ w.heap.size 1 x hx (by exact Whole.new w _ _)).mono ?_
    rintro e w1 ⟨A, c, rfl, hown, hK, hA⟩
    rw [World.size_alloc] at hown hA
    have hB1 : Below w.heap.size w w1 := (((Keeps.refl (fun _ => False) w).alloc _).trans hK (fun _ _ h => h)).below (Nat.le_refl _) (fun _ h => h.elim)
    clear hK
    obtain ⟨g, cap, hv, hgl, hgh⟩ := hown.form (by omega)
    injection hv with hv1 hv2 hv3
    subst hv1 hv3
    obtain ⟨z, hc0, hq⟩ : ∃ z, w1.cell? ⟨g, 0, none⟩ = some (.int .u8 z) ∧ (z == Go.bits .or .u8 (IntKind.u8.wrap (x : Int)) 128) = true := by
      refine ⟨(x : Int) % 128 + 128, ?_, ?_⟩
      · rw [hown.cellAt 0 (by omega), HU.out]
        simp [Lib.byteCells, Nat.toUInt8, UInt8.toNat_ofNat']
        omega
      · rw [IntKind.wrap_u8', Lib.u8_or128_any _ (by omega) (by omega)]; simp
    obtain ⟨n, hn⟩ : ∃ n, (Lib.uvarint x).length = n := ⟨_, rfl⟩
    rw [hn] at hlen hown
    rw [hn]
    have HN := Lib.hid hn
    clear hn
    have hcap : n ≤ c := by
      rcases hown.2 with ⟨h', _⟩ | ⟨g', cap', cur, h', _, _, hnc, _⟩
      · cases h'
      · injection h' with h1 h2 h3
        omega
    have hc1 : ¬ c = 1 := by omega
    have hR : Rd w1 1 (some ⟨g, 1, none⟩) (n - 1) (Lib.byteCells (Lib.uvarint (x / 128))) := by
      have h1 := (Rd.own hown).part (lo := 1) (hi := n) (by omega) (Nat.le_refl _)
      rw [HU.out, Nat.one_mul, Nat.mul_one, Lib.byteCells, List.map_cons, List.drop_one, List.tail_cons] at h1
      rw [List.take_of_length_le (by have := congrArg List.length HU.out; rw [HN.out, List.length_cons] at this; rw [List.length_map]; omega)] at h1
      exact h1
    obtain ⟨y, hy⟩ : ∃ y, x / 128 = y := ⟨_, rfl⟩
    rw [hy] at hR HU
    have hyi : (x : Int) / 128 = y := by omega
    have hyl : y < 18446744073709551616 := by omega
    clear hy hown hx hA HN
    have HY := Lib.hid hyl
    have hlenI : (1 : Int) < (n : Int) := by omega
    have h0n : 0 < n := by omega
    have h1i : (1 : Int) ≤ (n : Int) := by omega
    have hnc : (n : Int) ≤ (c : Int) := by omega
    have h0i : (0 : Int) < (n : Int) := by omega
    clear hyl
    go_wp2_with fail
    go_region_held3 (fun w' => w'.cell? ⟨g, 0, none⟩ = some (.int .u8 z)) (first | exact hc0 | exact hk2 | go_keep) (first | (go_at_call 47; refine (prPutOne _ _ 1 y HY.out (by exact Whole.new _ _ _)).mono ?_; rintro e w2 ⟨A2, c2, rfl, hown2, hK2, hA2⟩; have hk2 : w2.cell? ⟨g, 0, none⟩ = some (.int .u8 z) := (hK2.cell (p := ⟨g, 0, none⟩) (by simp; omega) (fun h => h)).trans (by assumption); have hR2 : Rd w2 1 (some ⟨g, 1, none⟩) (n - 1) (Lib.byteCells (Lib.uvarint y)) := Rd.keeps (S := fun _ => False) (by exact (hR.alloc _).drew) hK2 (fun _ _ h => h)) | (go_at_call 48; refine (bytesEq _ _ _ _ _ _ _ (Lib.uvarint y) (Lib.uvarint y) (by exact hR2) (by exact Rd.own hown2)).mono ?_; rintro e w3 ⟨rfl, rfl⟩))
    go_wp2_with fail
    go_ret
    exact ⟨rfl, ((hB1.alloc hB1.size _).drew).trans (hK2.below (by have := hB1.size; simp; omega) (fun _ h => h.elim))⟩
end Go.Proofs.Ytllokbblmdadnaa
