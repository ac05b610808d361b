/- spec.PRVar: a number as groups of seven bits, in a row of the call's own. Conditions: a number of 64 bits. -/
import Derived.Test.YtgnlfbekkddmiaaEnc
namespace Go.Proofs.Ytgnlfbekkddmiaa
open Go.RowKit
theorem byte_one' (n : Nat) (z : Int) (h : n < 256) (hz : (n : Int) = z) : [Value.int .u8 z] = Lib.byteCells [n.toUInt8] := by
  subst hz
  simp only [Lib.byteCells, List.map_cons, List.map_nil]
  rw [show n.toUInt8.toNat = n by show (UInt8.ofNat n).toNat = n; rw [UInt8.toNat_ofNat']; omega]

set_option maxRecDepth 100000 in
set_option maxHeartbeats 1000000 in
theorem prVar (w : World) (x : Nat) (hx : x < 18446744073709551616) :
    Calls Try.prog 46 #[.int .u64 x] w fun e w' => ∃ A c, e = .returned (.slice A (Lib.uvarint x).length c) ∧ w'.ownsRow w.heap.size 5 1 (.slice A (Lib.uvarint x).length c) (Lib.uvarint x).length (Lib.byteCells (Lib.uvarint x)) ∧ Keeps (fun _ => False) w w' ∧ ∀ k, ob A = some k → w.heap.size ≤ k := by
  obtain ⟨i0, hi0, hz0, hz1, hz2⟩ := info_parts infoU8
  have hl := Lib.uvarint_length64 hx
  clear hx
  go_enter Try.func46, Try.ntmps46
  go_wp2_with fail
  go_loopw [0, 3] (fun X V wr => ∃ (y : Nat) (pre : List UInt8) (A : Option Addr) (c : Nat), X = .int .u64 y ∧ V = .slice A pre.length c ∧ Lib.uvarint x = pre ++ Lib.uvarint y ∧ y ≤ x ∧ wr.ownsRow w.heap.size 5 1 (.slice A pre.length c) pre.length (Lib.byteCells pre) ∧ Keeps (fun _ => False) w wr) (fun X _ _ => (intOf X).toNat)
  case atStart => exact ⟨x, [], none, 0, rfl, rfl, rfl, by omega, World.ownsRow_nil _ _ _ _, Keeps.refl _ _⟩
  case round =>
    obtain ⟨y, pre, A, c, rfl, rfl, he, hy, hown, hK⟩ := hrel
    have hp := Lib.uvarint_pos y
    have hk : pre.length < 10 := by have := congrArg List.length he; simp only [List.length_append] at this; omega
    have HE := Lib.hid he
    clear he hl
    by_cases hlt : 128 ≤ y
    · have hb : Go.bits .or .u8 ((y : Int) % 256) 128 = ((y % 128 + 128 : Nat) : Int) := by rw [Lib.u8_or128_any _ (by omega) (by omega)]; omega
      generalize hbb : y % 128 + 128 = bb at hb
      have hbl : bb < 256 := by omega
      go_wp2_with (first
        | (at_builtin
           refine wpList_append_rd _ rfl (.tmp 6) (.tmp 10) _ rfl w.heap.size 5 i0 _ 1 1 Try.underlying22 hi0 hz0 hz1 hz2 rfl Nat.one_pos A c pre.length (Lib.byteCells pre) rfl (own_keeps hown ((Keeps.refl (fun _ => False) _).alloc _) (fun _ _ h => h)) (some ⟨wr.heap.size, 0, none⟩) 1 1 (Lib.byteCells [bb.toUInt8]) rfl (Rd.whole (by exact Whole.new _ _ _) (by exact byte_one' bb _ hbl rfl) (by rfl)) (byteCells_one _) (by simp only [maxLen]; omega) (by omega) (by have := hK.size; rw [World.size_alloc]; omega) ?_
           intro A1 c1 w1 o1 hg1 hat1
           have K1 := (hK.alloc (.cells #[.int .u8 (bb : Int)] 5)).grown hg1 (fun k hk => .inr (hown.lt k (by rw [ownBlock_slice]; exact hk)).1)
           rw [← Lib.byteCells_append] at o1))
      go_roundw
      case rel =>
        refine ⟨y / 128, pre ++ [bb.toUInt8], A1, c1, by simp, by simp, ?_, by omega, by simpa using o1, K1⟩
        rw [HE.out, Lib.uvarint_big hlt, ← hbb]; simp
      case measure => simp [intOf]; omega
    · have hb : (y : Int) % 256 = ((y : Nat) : Int) := by omega
      have hu := Lib.uvarint_small (x := y) (by omega)
      have HU := Lib.hid hu
      clear hu
      go_wp2_with (first
        | (at_builtin
           refine wpList_append_rd _ rfl (.tmp 14) (.tmp 17) _ rfl w.heap.size 5 i0 _ 1 1 Try.underlying22 hi0 hz0 hz1 hz2 rfl Nat.one_pos A c pre.length (Lib.byteCells pre) rfl (own_keeps hown ((Keeps.refl (fun _ => False) _).alloc _) (fun _ _ h => h)) (some ⟨wr.heap.size, 0, none⟩) 1 1 (Lib.byteCells [y.toUInt8]) rfl (Rd.whole (by exact Whole.new _ _ _) (by exact byte_one' y _ (by omega) rfl) (by rfl)) (byteCells_one _) (by simp only [maxLen]; omega) (by omega) (by have := hK.size; rw [World.size_alloc]; omega) ?_
           intro A1 c1 w1 o1 hg1 hat1
           have K1 := (hK.alloc (.cells #[.int .u8 (y : Int)] 5)).grown hg1 (fun k hk => .inr (hown.lt k (by rw [ownBlock_slice]; exact hk)).1)
           rw [← Lib.byteCells_append] at o1))
      go_ret
      rw [HE.out, HU.out]
      refine ⟨A1, c1, by simp, by simpa using o1, K1, fun k hk => (o1.lt k (by rw [ownBlock_slice]; exact hk)).1⟩
end Go.Proofs.Ytgnlfbekkddmiaa
