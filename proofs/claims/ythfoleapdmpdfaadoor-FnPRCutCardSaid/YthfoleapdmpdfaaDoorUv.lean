/- Contracts of varints, strings and wide numbers put into a buffer. Conditions as in the text of the buffer. -/
import Derived.Test.YthfoleapdmpdfaaDoorPut
import Derived.Lib.AppendStr
namespace Go.Proofs.YthfoleapdmpdfaaDoor
open Go.RowKit
theorem run_slice_arr {P : Program} {t e : TypeId} {n m : Nat} {i : TypeInfo} (ht : P.underlying t = some (.array n e)) (hi : P.info? e = some i) (hm : m ≤ n) (a : Addr) (w : World) :
    (Instr.sliceAt t (.pointer (some a)) none (some (.int .i64 m)) none).run P w = .ok (.slice (some a) m n) w := by
  simp [Instr.sliceAt, Instr.sureAddr, run_underlying ht, Instr.sliceBounds, run_sliceBound, sizeOf, typeInfo, hi, hm, Addr.add]
theorem puts_snoc (vs : List Value) (v : Value) : ∀ (cs : Array Value) (o : Nat), puts cs o (vs ++ [v]) = (puts cs o vs).setIfInBounds (o + vs.length) v := by
  induction vs with
  | nil => intro cs o; rfl
  | cons u vs ih => intro cs o; simp only [List.cons_append, puts, List.length_cons]; rw [ih, show o + 1 + vs.length = o + (vs.length + 1) by omega]
theorem byteCells_snoc (pre : List UInt8) {a : Nat} (h : a < 256) : Lib.byteCells (pre ++ [a.toUInt8]) = Lib.byteCells pre ++ [Value.int .u8 (a : Int)] := Lib.byteCells_snoc pre h

set_option maxRecDepth 100000 in
set_option maxHeartbeats 400000 in
theorem uvPut (w : World) (g : Nat) (t : TypeId) (cs : Array Value) (x : Nat) (hW : Whole w g t cs) (hs : cs.size = 10) (hx : x < 18446744073709551616) :
    Calls Tryd.prog 92 #[.slice (some ⟨g, 0, none⟩) 10 10, .int .u64 x] w fun e w' =>
      e = .returned (.int .i64 (Lib.uvarint x).length) ∧ Whole w' g t (puts cs 0 (Lib.byteCells (Lib.uvarint x))) ∧ Keeps (fun k => k = g) w w' := by
  have hl := Lib.uvarint_length64 hx
  clear hx
  go_enter Tryd.func92, Tryd.ntmps92
  go_wp2
  go_loopw [1, 5] (fun X i wr => ∃ (y : Nat) (pre : List UInt8), i = .int .i64 pre.length ∧ X = .int .u64 y ∧ Lib.uvarint x = pre ++ Lib.uvarint y ∧ y ≤ x ∧ Whole wr g t (puts cs 0 (Lib.byteCells pre)) ∧ Keeps (fun k => k = g) w wr) (fun X _ _ => (intOf X).toNat)
  case atStart => exact ⟨x, [], rfl, rfl, rfl, by omega, hW, Keeps.refl _ _⟩
  case round =>
    obtain ⟨y, pre, rfl, rfl, he, hy, hW1, hK1⟩ := hrel
    have hp := Lib.uvarint_pos y
    have hk : pre.length < 10 := by have := congrArg List.length he; simp only [List.length_append] at this; omega
    obtain ⟨v, hv⟩ : ∃ v, (puts cs 0 (Lib.byteCells pre))[pre.length]? = some v := ⟨_, Array.getElem?_eq_getElem (by rw [puts_size]; omega)⟩
    have hc : wr.cell? ⟨g, pre.length, none⟩ = some v := (hW1.cell _).trans hv
    have hf := hW1.frozen pre.length
    clear hv
    have HE := Lib.hid he
    clear he hl hs
    by_cases hlt : 128 ≤ y
    · have hb : Go.bits .or .u8 ((y : Int) % 256) 128 = ((y % 128 + 128 : Nat) : Int) := by rw [Lib.u8_or128_any _ (by omega) (by omega)]; omega
      have HB := Lib.hid hb
      clear hb
      go_wp2
      go_roundw
      case rel =>
        refine ⟨y / 128, pre ++ [(y % 128 + 128).toUInt8], by simp, by go_num, ?_, by omega, ?_, hK1.setCell (.inl rfl) _⟩
        · rw [HE.out, Lib.uvarint_big hlt]; simp
        · rw [byteCells_snoc _ (by omega), puts_snoc, Nat.zero_add, Lib.byteCells_length, ← HB.out]
          exact hW1.put _ _
      case measure => simp [intOf]; omega
    · have hb : (y : Int) % 256 = ((y : Nat) : Int) := by omega
      have hu := Lib.uvarint_small (x := y) (by omega)
      have HU := Lib.hid hu
      clear hu
      go_wp2
      go_ret
      refine ⟨?_, ?_, hK1.setCell (.inl rfl) _⟩
      · rw [HE.out, HU.out]; simp
      · rw [HE.out, HU.out, byteCells_snoc _ (by omega), puts_snoc, Nat.zero_add, Lib.byteCells_length]
        exact hW1.put _ _
set_option maxRecDepth 100000 in
set_option maxHeartbeats 400000 in
theorem putUv (w : World) (base bb : Nat) (A : Option Addr) (c : Nat) (l : List UInt8) (x : Nat) (hB : BufAt w base bb A c l) (hn : l.length < 70368744177664) (hx : x < 18446744073709551616) :
    Calls Tryd.prog 64 #[.pointer (some ⟨bb, 0, none⟩), .int .u64 x] w fun e w' => ∃ A' c', e = .returned (.tuple #[]) ∧ Put w w' base bb A A' c' (l ++ Lib.uvarint x) := by
  obtain ⟨i0, hi0, hz0, hz1, hz2⟩ := info_parts infoU8
  have hlt := hB.blk.lt
  have hU := Lib.uvarint_length64 hx
  go_enter Tryd.func64, Tryd.ntmps64
  go_wp2_with fail
  refine (uvPut _ w.heap.size 151 #[.int .u8 0, .int .u8 0, .int .u8 0, .int .u8 0, .int .u8 0, .int .u8 0, .int .u8 0, .int .u8 0, .int .u8 0, .int .u8 0] x (by exact Whole.new w _ _) rfl hx).mono ?_
  rintro e w1 ⟨rfl, hW, hK⟩
  clear hx
  have h0 : Keeps (fun _ => False) w w1 := ((Keeps.refl _ w).alloc (.cells #[.int .u8 0, .int .u8 0, .int .u8 0, .int .u8 0, .int .u8 0, .int .u8 0, .int .u8 0, .int .u8 0, .int .u8 0, .int .u8 0] 151)).trans hK (fun i hi h => by omega)
  have h0d := h0.drew
  have hB1 := hB.keeps h0d (fun h => h) (fun _ _ h => h)
  obtain ⟨m, hm⟩ : ∃ m, (Lib.uvarint x).length = m := ⟨_, rfl⟩
  have hR : Rd w1.drew 1 (some ⟨w.heap.size, 0, none⟩) m (Lib.byteCells (Lib.uvarint x)) := by
    have h1 : (puts #[.int .u8 0, .int .u8 0, .int .u8 0, .int .u8 0, .int .u8 0, .int .u8 0, .int .u8 0, .int .u8 0, .int .u8 0, .int .u8 0] 0 (Lib.byteCells (Lib.uvarint x))).toList.take m = Lib.byteCells (Lib.uvarint x) := by
      rw [puts_list _ _ _ (by simp [Lib.byteCells_length]; omega), List.take_zero, List.nil_append, ← hm, ← Lib.byteCells_length, List.take_left]
    have h2 := (Rd.whole (n := 10) hW.drew rfl (by rw [Array.length_toList, puts_size]; rfl)).part (lo := 0) (hi := m) (by omega) (by omega)
    simp only [List.drop_zero, Nat.sub_zero, Nat.mul_one] at h2
    rw [h1] at h2
    exact h2
  have hc : w1.cell? ⟨bb, 0, none⟩ = some (.slice A l.length c) := hB1.blk.cell 0
  obtain ⟨n1, n2, n3⟩ := put_asks hB h0d hn
  have n1 : l.length + m ≤ maxLen := by omega
  have n2 : (l.length + m) * 1 ≤ 140737488355328 := by omega
  have o1 := byteCells_one (Lib.uvarint x)
  clear hW hK
  rw [hm]
  rw [hm] at hU
  have HM := Lib.hid hm
  have hsl := fun a w => run_slice_arr (P := Tryd.prog) (t := 151) (e := 5) (n := 10) (m := m) Tryd.underlying151 hi0 hU a w
  clear hm
  go_wp2_with fail
  go_region_law (
    (refine step_append_rd _ rfl (.tmp 14) (.tmp 16) 22 rfl base 5 i0 (.int .u8 0) 1 1 Tryd.underlying22 hi0 hz0 hz1 hz2 rfl Nat.one_pos A c l.length (Lib.byteCells l) rfl hB1.own (some ⟨w.heap.size, 0, none⟩) m 10 (Lib.byteCells (Lib.uvarint x)) rfl hR o1 n1 n2 n3 ?_
     intro A' c' w2 hown hg hat
     have hblk := hB1.blk.grown hg (Ne.symm hB1.far)
     have hc1 : w2.cell? ⟨bb, 0, none⟩ = some (.slice A l.length c) := hblk.cell 0
     have hf1 : w2.frozen? ⟨bb, 0, none⟩ = false := hblk.frozen 0))
  go_wp2_with fail
  go_end0
  exact ⟨A', c', rfl, put_of HM.out hB h0d hown hg hat⟩
end Go.Proofs.YthfoleapdmpdfaaDoor
