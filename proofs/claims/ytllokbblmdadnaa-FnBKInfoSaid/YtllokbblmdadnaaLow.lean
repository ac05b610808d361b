/- spec.PRLow with four bytes, and spec.BKInfo. Conditions: the argument is a number of 64 bits. -/
import Derived.Test.YtllokbblmdadnaaBi
namespace Go.Proofs.Ytllokbblmdadnaa
open Go.RowKit
theorem shr_div (x k : Nat) : ((x : Int) / (k : Int)) = ((x / k : Nat) : Int) := by simp

theorem byte_one (n : Nat) (z : Int) (h : (n : Int) % 256 = z) : Lib.byteCells [UInt8.ofNat n] = [Value.int .u8 z] := by
  simp only [Lib.byteCells, List.map_cons, List.map_nil, cell_ofNat, h]

set_option maxRecDepth 100000 in
set_option maxHeartbeats 1000000 in
theorem prLow4 (w : World) (v h : Nat) (hv : v < 18446744073709551616) :
    Calls Try.prog 100 #[.int .u64 v, .int .u64 h, .int .i64 4] w fun e w' => ∃ A c, e = .returned (.slice A 4 c) ∧ w'.ownsRow w.heap.size 5 1 (.slice A 4 c) 4 (Lib.byteCells (leb 4 v)) ∧ Keeps (fun _ => False) w w' ∧ ∀ k, ob A = some k → w.heap.size ≤ k := by
  obtain ⟨i0, hi0, hz0, hz1, hz2⟩ := info_parts infoU8
  have o0 := World.ownsRow_nil w w.heap.size 5 1
  have K0 := Keeps.refl (fun _ => False) w
  have t0 : (v : Int) % 18446744073709551616 = v := by omega
  have T0 := Lib.hid t0
  clear t0
  go_enter Try.func100, Try.ntmps100
  go_wp2_with fail
  refine wp_loop_rounds 5 ?_
  rw [rounds_succ]
  go_wp2_with (first
    | (at_builtin
       refine wpList_append_rd _ rfl (.tmp 18) (.tmp 25) _ rfl w.heap.size 5 i0 _ 1 1 Try.underlying48 hi0 hz0 hz1 hz2 rfl Nat.one_pos none 0 0 (Lib.byteCells []) rfl (own_keeps o0 ((Keeps.refl (fun _ => False) _).alloc _) (fun _ _ h => h)) (some ⟨w.heap.size, 0, none⟩) 1 1 (Lib.byteCells [UInt8.ofNat v]) rfl (Rd.whole (by exact Whole.new _ _ _) (by exact (byte_one _ _ (show ((v : Nat) : Int) % 256 = (v : Int) % 256 by simp)).symm) (by rfl)) (byteCells_one _) (by simp only [maxLen]; omega) (by omega) (by have := K0.size; rw [World.size_alloc]; omega) ?_
       intro A1 c1 w1 o1 hg1 hat1))
  rw [← Lib.byteCells_append] at o1
  change w1.ownsRow w.heap.size 5 1 (.slice A1 1 c1) 1 (Lib.byteCells [UInt8.ofNat v]) at o1
  have K1 := (K0.alloc (.cells #[.int .u8 ((v : Int) % 256)] 5)).grown hg1 (fun k hk => .inr (by have := o0.lt k (by rw [ownBlock_slice]; exact hk); omega))
  rw [rounds_succ]
  go_wp2_with (first
    | (at_builtin
       refine wpList_append_rd _ rfl (.tmp 18) (.tmp 25) _ rfl w.heap.size 5 i0 _ 1 1 Try.underlying48 hi0 hz0 hz1 hz2 rfl Nat.one_pos A1 c1 1 (Lib.byteCells [UInt8.ofNat v]) rfl (own_keeps o1 ((Keeps.refl (fun _ => False) _).alloc _) (fun _ _ h => h)) (some ⟨w1.heap.size, 0, none⟩) 1 1 (Lib.byteCells [UInt8.ofNat (v / 256)]) rfl (Rd.whole (by exact Whole.new _ _ _) (by exact (byte_one _ _ (show (((v / 256) : Nat) : Int) % 256 = (v : Int) / 256 % 256 by simp)).symm) (by rfl)) (byteCells_one _) (by simp only [maxLen]; omega) (by omega) (by have := K1.size; rw [World.size_alloc]; omega) ?_
       intro A2 c2 w2 o2 hg2 hat2))
  rw [← Lib.byteCells_append] at o2
  change w2.ownsRow w.heap.size 5 1 (.slice A2 2 c2) 2 (Lib.byteCells [UInt8.ofNat v, UInt8.ofNat (v / 256)]) at o2
  have K2 := (K1.alloc (.cells #[.int .u8 ((v : Int) / 256 % 256)] 5)).grown hg2 (fun k hk => .inr (by have := o1.lt k (by rw [ownBlock_slice]; exact hk); omega))
  rw [rounds_succ]
  go_wp2_with (first
    | (at_builtin
       refine wpList_append_rd _ rfl (.tmp 18) (.tmp 25) _ rfl w.heap.size 5 i0 _ 1 1 Try.underlying48 hi0 hz0 hz1 hz2 rfl Nat.one_pos A2 c2 2 (Lib.byteCells [UInt8.ofNat v, UInt8.ofNat (v / 256)]) rfl (own_keeps o2 ((Keeps.refl (fun _ => False) _).alloc _) (fun _ _ h => h)) (some ⟨w2.heap.size, 0, none⟩) 1 1 (Lib.byteCells [UInt8.ofNat (v / 65536)]) rfl (Rd.whole (by exact Whole.new _ _ _) (by exact (byte_one _ _ (show (((v / 65536) : Nat) : Int) % 256 = (v : Int) / 65536 % 256 by simp)).symm) (by rfl)) (byteCells_one _) (by simp only [maxLen]; omega) (by omega) (by have := K2.size; rw [World.size_alloc]; omega) ?_
       intro A3 c3 w3 o3 hg3 hat3))
  rw [← Lib.byteCells_append] at o3
  change w3.ownsRow w.heap.size 5 1 (.slice A3 3 c3) 3 (Lib.byteCells [UInt8.ofNat v, UInt8.ofNat (v / 256), UInt8.ofNat (v / 65536)]) at o3
  have K3 := (K2.alloc (.cells #[.int .u8 ((v : Int) / 65536 % 256)] 5)).grown hg3 (fun k hk => .inr (by have := o2.lt k (by rw [ownBlock_slice]; exact hk); omega))
  rw [rounds_succ]
  go_wp2_with (first
    | (at_builtin
       refine wpList_append_rd _ rfl (.tmp 18) (.tmp 25) _ rfl w.heap.size 5 i0 _ 1 1 Try.underlying48 hi0 hz0 hz1 hz2 rfl Nat.one_pos A3 c3 3 (Lib.byteCells [UInt8.ofNat v, UInt8.ofNat (v / 256), UInt8.ofNat (v / 65536)]) rfl (own_keeps o3 ((Keeps.refl (fun _ => False) _).alloc _) (fun _ _ h => h)) (some ⟨w3.heap.size, 0, none⟩) 1 1 (Lib.byteCells [UInt8.ofNat (v / 16777216)]) rfl (Rd.whole (by exact Whole.new _ _ _) (by exact (byte_one _ _ (show (((v / 16777216) : Nat) : Int) % 256 = (v : Int) / 16777216 % 256 by simp)).symm) (by rfl)) (byteCells_one _) (by simp only [maxLen]; omega) (by omega) (by have := K3.size; rw [World.size_alloc]; omega) ?_
       intro A4 c4 w4 o4 hg4 hat4))
  rw [← Lib.byteCells_append] at o4
  change w4.ownsRow w.heap.size 5 1 (.slice A4 4 c4) 4 (Lib.byteCells [UInt8.ofNat v, UInt8.ofNat (v / 256), UInt8.ofNat (v / 65536), UInt8.ofNat (v / 16777216)]) at o4
  have K4 := (K3.alloc (.cells #[.int .u8 ((v : Int) / 16777216 % 256)] 5)).grown hg4 (fun k hk => .inr (by have := o3.lt k (by rw [ownBlock_slice]; exact hk); omega))
  rw [rounds_succ]
  go_wp2_with fail
  go_ret
  exact ⟨A4, c4, rfl, by simpa only [leb, Nat.div_div_eq_div_mul] using o4, K4, fun k hk => (o4.lt k (by rw [ownBlock_slice]; exact hk)).1⟩

theorem leb4_congr (x y : Nat) (h : x % 4294967296 = y % 4294967296) : leb 4 x = leb 4 y := by
  have e : ∀ a b : Nat, a % 256 = b % 256 → UInt8.ofNat a = UInt8.ofNat b := fun a b h => by
    apply UInt8.toNat_inj.1
    rw [UInt8.toNat_ofNat', UInt8.toNat_ofNat']; exact h
  simp only [leb, Nat.div_div_eq_div_mul]
  rw [e x y (by omega), e (x / 256) (y / 256) (by omega), e (x / (256 * 256)) (y / (256 * 256)) (by omega), e (x / (256 * 256 * 256)) (y / (256 * 256 * 256)) (by omega)]

set_option maxRecDepth 100000 in
set_option maxHeartbeats 1000000 in
theorem bkInfo (w : World) (o : Bool) (v : Int) (u : Nat) (hu : IntKind.u64.wrap v = (u : Int)) :
    Calls Try.prog 53 #[.bool o, .int .i64 v] w fun e w' => ∃ A c, e = .returned (.slice A 8 c) ∧ w'.ownsRow w.heap.size 5 1 (.slice A 8 c) 8 (Lib.byteCells (biBytes o u)) ∧ Keeps (fun _ => False) w w' ∧ ∀ k, ob A = some k → w.heap.size ≤ k := by
  obtain ⟨i0, hi0, hz0, hz1, hz2⟩ := info_parts infoU8
  have hub : u < 18446744073709551616 := by have h : v % 18446744073709551616 = (u : Int) := hu; omega
  have hu' : v % 18446744073709551616 = (u : Int) := hu
  have HU := Lib.hid hub
  clear hub
  have o1 := World.ownsRow_lit (base := w.heap.size) (e := 5) (size := 1) w #[.int .u8 1, .int .u8 (if o then 1 else 0), .int .u8 2] 3 (Nat.le_refl _) (by decide) rfl
  have e1 : [Value.int .u8 1, .int .u8 (if o then 1 else 0), .int .u8 2] = Lib.byteCells [1, if o then 1 else 0, 2] := by cases o <;> rfl
  have K1 := (Keeps.refl (fun _ => False) w).alloc (.cells #[.int .u8 1, .int .u8 (if o then 1 else 0), .int .u8 2] 5)
  simp only at o1
  rw [e1] at o1
  clear e1
  go_enter Try.func53, Try.ntmps53
  cases o
  all_goals
    go_wp2_with (go_at_call 99; go_in)
    go_wp2_with (go_at_call 100; refine (prLow4 _ u 0 HU.out).mono ?_)
    rintro e w2 ⟨A2, c2, rfl, hown2, hK2, hA2⟩
    rw [World.size_alloc] at hown2 hA2
    have o2 := own_keeps o1 hK2 (fun _ _ h => h)
    have hR2 := Rd.own hown2
    have K2 := K1.trans hK2 (fun _ _ h => h)
    go_wp2_with (first
      | (at_builtin
         refine wpList_append_rd _ rfl (.tmp 9) (.tmp 12) _ rfl w.heap.size 5 i0 _ 1 1 Try.underlying48 hi0 hz0 hz1 hz2 rfl Nat.one_pos (some ⟨w.heap.size, 0, none⟩) 3 3 _ rfl o2 A2 4 c2 (Lib.byteCells (leb 4 u)) rfl hR2 (byteCells_one _) (by decide) (by omega) K2.size ?_
         intro A3 c3 w3 o3 hg3 hat3
         have K3 := K2.grown hg3 (fun k hk => .inr (by simp [ob] at hk; omega))
         rw [← Lib.byteCells_append] at o3)
      | (at_builtin
         refine wpList_append_rd _ rfl (.tmp 13) (.tmp 14) _ rfl w.heap.size 5 i0 _ 1 1 Try.underlying48 hi0 hz0 hz1 hz2 rfl Nat.one_pos A3 c3 7 _ rfl (own_keeps o3 ((Keeps.refl (fun _ => False) _).alloc _) (fun _ _ h => h)) (some ⟨w3.heap.size, 0, none⟩) 1 1 (Lib.byteCells [0]) rfl (Rd.whole (by exact Whole.new _ _ _) rfl rfl) (byteCells_one _) (by decide) (by omega) (by have := K3.size; rw [World.size_alloc]; omega) ?_
         intro A4 c4 w4 o4 hg4 hat4
         have K4 := (K3.alloc (.cells #[.int .u8 0] 5)).grown hg4 (fun k hk => .inr (by have := o3.lt k (by rw [ownBlock_slice]; exact hk); omega))))
    go_ret
    rw [← Lib.byteCells_append] at o4
    exact ⟨A4, c4, rfl, o4, K4, fun k hk => (o4.lt k (by rw [ownBlock_slice]; exact hk)).1⟩
end Go.Proofs.Ytllokbblmdadnaa
