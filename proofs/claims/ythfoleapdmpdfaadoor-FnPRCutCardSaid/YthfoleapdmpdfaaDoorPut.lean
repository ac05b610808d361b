/- Contracts of the buffer's Put methods for numbers of a fixed width. Conditions as in the text of the buffer. -/
import Derived.Test.YthfoleapdmpdfaaDoorBuf
import Derived.Test.YthfoleapdmpdfaaDoorLe
import Derived.Deep.RegionWith
namespace Go.Proofs.YthfoleapdmpdfaaDoor
open Go.RowKit
theorem Rd.whole {w : World} {g : Nat} {t : TypeId} {cs : Array Value} {xs : List Value} {n : Nat} (h : Whole w g t cs) (hx : cs.toList = xs) (hn : xs.length = n) : Rd w 1 (some ⟨g, 0, none⟩) n xs :=
  ⟨by omega, fun _ => ⟨_, rfl, h.lt, by subst hx; exact World.news_of_block h⟩⟩
theorem puts_full {cs : Array Value} {vs : List Value} (h : vs.length = cs.size) : (puts cs 0 vs).toList = vs := by
  rw [puts_list cs 0 vs (by omega)]
  simp; omega
/-- The parts of a buffer's own append: what the law asks. -/
theorem put_asks {w0 w1 : World} {base bb : Nat} {A : Option Addr} {c : Nat} {l : List UInt8} (hB : BufAt w0 base bb A c l) (h0 : Keeps (fun _ => False) w0 w1) (hn : l.length < 70368744177664) :
    l.length + 16 ≤ maxLen ∧ (l.length + 16) * 1 ≤ 140737488355328 ∧ base ≤ w1.heap.size := by
  have := hB.blk.lt
  have := hB.lo
  have := h0.size
  refine ⟨by simp only [maxLen]; omega, by omega, by omega⟩

set_option maxHeartbeats 400000 in
theorem put16 (w : World) (base bb : Nat) (A : Option Addr) (c : Nat) (l : List UInt8) (x : Nat) (hB : BufAt w base bb A c l) (hn : l.length < 70368744177664) :
    Calls Tryd.prog 55 #[.pointer (some ⟨bb, 0, none⟩), .int .u16 x] w fun e w' => ∃ A' c', e = .returned (.tuple #[]) ∧ Put w w' base bb A A' c' (l ++ leb 2 x) := by
  obtain ⟨i0, hi0, hz0, hz1, hz2⟩ := info_parts infoU8
  have hlt := hB.blk.lt
  go_enter Tryd.func55, Tryd.ntmps55
  go_wp2_with fail
  go_region_with (go_at_call 88; refine (lePut16 _ w.heap.size 0 2 2 143 _ x (by exact (Whole.new w _ _).drew) (by omega) (by simp)).mono ?_; rintro e w1 ⟨rfl, hW, hK⟩)
  have h0 : Keeps (fun _ => False) w w1 := (((Keeps.refl _ w).alloc (.cells #[.int .u8 0, .int .u8 0] 143)).drew).trans hK (fun i hi h => by omega)
  have h0d := h0.drew
  have hB1 := hB.keeps h0d (fun h => h) (fun _ _ h => h)
  have hR : Rd w1.drew 1 (some ⟨w.heap.size, 0, none⟩) 2 (Lib.byteCells (leb 2 x)) := Rd.whole hW (puts_full (by simp [Lib.byteCells_length, leb_length])) (by simp [Lib.byteCells_length, leb_length])
  have hc : w1.cell? ⟨bb, 0, none⟩ = some (.slice A l.length c) := hB1.blk.cell 0
  obtain ⟨n1, n2, n3⟩ := put_asks hB h0d hn
  have n1 : l.length + 2 ≤ maxLen := by omega
  have n2 : (l.length + 2) * 1 ≤ 140737488355328 := by omega
  have o1 := byteCells_one (leb 2 x)
  clear hW hK
  go_wp2_with fail
  go_region_law (
    (refine step_append_rd _ rfl (.tmp 14) (.tmp 15) 22 rfl base 5 i0 (.int .u8 0) 1 1 Tryd.underlying22 hi0 hz0 hz1 hz2 rfl Nat.one_pos A c l.length (Lib.byteCells l) rfl hB1.own (some ⟨w.heap.size, 0, none⟩) 2 2 (Lib.byteCells (leb 2 x)) rfl hR o1 n1 n2 n3 ?_
     intro A' c' w2 hown hg hat
     have hblk := hB1.blk.grown hg (Ne.symm hB1.far)
     have hc1 : w2.cell? ⟨bb, 0, none⟩ = some (.slice A l.length c) := hblk.cell 0
     have hf1 : w2.frozen? ⟨bb, 0, none⟩ = false := hblk.frozen 0))
  go_wp2_with fail
  go_end0
  exact ⟨A', c', rfl, put_of (d := leb 2 x) rfl hB h0d hown hg hat⟩
set_option maxHeartbeats 400000 in
theorem put32 (w : World) (base bb : Nat) (A : Option Addr) (c : Nat) (l : List UInt8) (x : Nat) (hB : BufAt w base bb A c l) (hn : l.length < 70368744177664) :
    Calls Tryd.prog 56 #[.pointer (some ⟨bb, 0, none⟩), .int .u32 x] w fun e w' => ∃ A' c', e = .returned (.tuple #[]) ∧ Put w w' base bb A A' c' (l ++ leb 4 x) := by
  obtain ⟨i0, hi0, hz0, hz1, hz2⟩ := info_parts infoU8
  have hlt := hB.blk.lt
  go_enter Tryd.func56, Tryd.ntmps56
  go_wp2_with fail
  go_region_with (go_at_call 89; refine (lePut32 _ w.heap.size 0 4 4 145 _ x (by exact (Whole.new w _ _).drew) (by omega) (by simp)).mono ?_; rintro e w1 ⟨rfl, hW, hK⟩)
  have h0 : Keeps (fun _ => False) w w1 := (((Keeps.refl _ w).alloc (.cells #[.int .u8 0, .int .u8 0, .int .u8 0, .int .u8 0] 145)).drew).trans hK (fun i hi h => by omega)
  have h0d := h0.drew
  have hB1 := hB.keeps h0d (fun h => h) (fun _ _ h => h)
  have hR : Rd w1.drew 1 (some ⟨w.heap.size, 0, none⟩) 4 (Lib.byteCells (leb 4 x)) := Rd.whole hW (puts_full (by simp [Lib.byteCells_length, leb_length])) (by simp [Lib.byteCells_length, leb_length])
  have hc : w1.cell? ⟨bb, 0, none⟩ = some (.slice A l.length c) := hB1.blk.cell 0
  obtain ⟨n1, n2, n3⟩ := put_asks hB h0d hn
  have n1 : l.length + 4 ≤ maxLen := by omega
  have n2 : (l.length + 4) * 1 ≤ 140737488355328 := by omega
  have o1 := byteCells_one (leb 4 x)
  clear hW hK
  go_wp2_with fail
  go_region_law (
    (refine step_append_rd _ rfl (.tmp 14) (.tmp 15) 22 rfl base 5 i0 (.int .u8 0) 1 1 Tryd.underlying22 hi0 hz0 hz1 hz2 rfl Nat.one_pos A c l.length (Lib.byteCells l) rfl hB1.own (some ⟨w.heap.size, 0, none⟩) 4 4 (Lib.byteCells (leb 4 x)) rfl hR o1 n1 n2 n3 ?_
     intro A' c' w2 hown hg hat
     have hblk := hB1.blk.grown hg (Ne.symm hB1.far)
     have hc1 : w2.cell? ⟨bb, 0, none⟩ = some (.slice A l.length c) := hblk.cell 0
     have hf1 : w2.frozen? ⟨bb, 0, none⟩ = false := hblk.frozen 0))
  go_wp2_with fail
  go_end0
  exact ⟨A', c', rfl, put_of (d := leb 4 x) rfl hB h0d hown hg hat⟩
set_option maxHeartbeats 400000 in
theorem put64 (w : World) (base bb : Nat) (A : Option Addr) (c : Nat) (l : List UInt8) (x : Nat) (hB : BufAt w base bb A c l) (hn : l.length < 70368744177664) :
    Calls Tryd.prog 57 #[.pointer (some ⟨bb, 0, none⟩), .int .u64 x] w fun e w' => ∃ A' c', e = .returned (.tuple #[]) ∧ Put w w' base bb A A' c' (l ++ leb 8 x) := by
  obtain ⟨i0, hi0, hz0, hz1, hz2⟩ := info_parts infoU8
  have hlt := hB.blk.lt
  go_enter Tryd.func57, Tryd.ntmps57
  go_wp2_with fail
  go_region_with (go_at_call 90; refine (lePut64 _ w.heap.size 0 8 8 147 _ x (by exact (Whole.new w _ _).drew) (by omega) (by simp)).mono ?_; rintro e w1 ⟨rfl, hW, hK⟩)
  have h0 : Keeps (fun _ => False) w w1 := (((Keeps.refl _ w).alloc (.cells #[.int .u8 0, .int .u8 0, .int .u8 0, .int .u8 0, .int .u8 0, .int .u8 0, .int .u8 0, .int .u8 0] 147)).drew).trans hK (fun i hi h => by omega)
  have h0d := h0.drew
  have hB1 := hB.keeps h0d (fun h => h) (fun _ _ h => h)
  have hR : Rd w1.drew 1 (some ⟨w.heap.size, 0, none⟩) 8 (Lib.byteCells (leb 8 x)) := Rd.whole hW (puts_full (by simp [Lib.byteCells_length, leb_length])) (by simp [Lib.byteCells_length, leb_length])
  have hc : w1.cell? ⟨bb, 0, none⟩ = some (.slice A l.length c) := hB1.blk.cell 0
  obtain ⟨n1, n2, n3⟩ := put_asks hB h0d hn
  have n1 : l.length + 8 ≤ maxLen := by omega
  have n2 : (l.length + 8) * 1 ≤ 140737488355328 := by omega
  have o1 := byteCells_one (leb 8 x)
  clear hW hK
  go_wp2_with fail
  go_region_law (
    (refine step_append_rd _ rfl (.tmp 14) (.tmp 15) 22 rfl base 5 i0 (.int .u8 0) 1 1 Tryd.underlying22 hi0 hz0 hz1 hz2 rfl Nat.one_pos A c l.length (Lib.byteCells l) rfl hB1.own (some ⟨w.heap.size, 0, none⟩) 8 8 (Lib.byteCells (leb 8 x)) rfl hR o1 n1 n2 n3 ?_
     intro A' c' w2 hown hg hat
     have hblk := hB1.blk.grown hg (Ne.symm hB1.far)
     have hc1 : w2.cell? ⟨bb, 0, none⟩ = some (.slice A l.length c) := hblk.cell 0
     have hf1 : w2.frozen? ⟨bb, 0, none⟩ = false := hblk.frozen 0))
  go_wp2_with fail
  go_end0
  exact ⟨A', c', rfl, put_of (d := leb 8 x) rfl hB h0d hown hg hat⟩
end Go.Proofs.YthfoleapdmpdfaaDoor
