/- Contracts of varints, strings and wide numbers put into a buffer. Conditions as in the text of the buffer. -/
import Derived.Test.YtpbnhhfpbadhjaaGreatPut
import Derived.Lib.AppendStr
namespace Go.Proofs.YtpbnhhfpbadhjaaGreat
open Go.RowKit
theorem run_slice_arr {P : Program} {t e : TypeId} {n m : Nat} {i : TypeInfo} (ht : P.underlying t = some (.array n e)) (hi : P.info? e = some i) (hm : m ≤ n) (a : Addr) (w : World) :
    (Instr.sliceAt t (.pointer (some a)) none (some (.int .i64 m)) none).run P w = .ok (.slice (some a) m n) w := by
  simp [Instr.sliceAt, Instr.sureAddr, run_underlying ht, Instr.sliceBounds, run_sliceBound, sizeOf, typeInfo, hi, hm, Addr.add]
theorem puts_snoc (vs : List Value) (v : Value) : ∀ (cs : Array Value) (o : Nat), puts cs o (vs ++ [v]) = (puts cs o vs).setIfInBounds (o + vs.length) v := by
  induction vs with
  | nil => intro cs o; rfl
  | cons u vs ih => intro cs o; simp only [List.cons_append, puts, List.length_cons]; rw [ih, show o + 1 + vs.length = o + (vs.length + 1) by omega]
theorem byteCells_snoc (pre : List UInt8) {a : Nat} (h : a < 256) : Lib.byteCells (pre ++ [a.toUInt8]) = Lib.byteCells pre ++ [Value.int .u8 (a : Int)] := Lib.byteCells_snoc pre h

set_option maxRecDepth 100000 in
set_option maxHeartbeats 400000 in
theorem uvPut (w : World) (g : Nat) (t : TypeId) (cs : Array Value) (x : Nat) (hW : Whole w g t cs) (hs : cs.size = 10) (hx : x < 18446744073709551616) :
    Calls Tryz.prog 146 #[.slice (some ⟨g, 0, none⟩) 10 10, .int .u64 x] w fun e w' =>
      e = .returned (.int .i64 (Lib.uvarint x).length) ∧ Whole w' g t (puts cs 0 (Lib.byteCells (Lib.uvarint x))) ∧ Keeps (fun k => k = g) w w' := by
  have hl := Lib.uvarint_length64 hx
  clear hx
  go_enter Tryz.func146, Tryz.ntmps146
  go_wp2
  go_loopw [1, 5] (fun X i wr => ∃ (y : Nat) (pre : List UInt8), i = .int .i64 pre.length ∧ X = .int .u64 y ∧ Lib.uvarint x = pre ++ Lib.uvarint y ∧ y ≤ x ∧ Whole wr g t (puts cs 0 (Lib.byteCells pre)) ∧ Keeps (fun k => k = g) w wr) (fun X _ _ => (intOf X).toNat)
  case atStart => exact ⟨x, [], rfl, rfl, rfl, by omega, hW, Keeps.refl _ _⟩
  case round =>
    obtain ⟨y, pre, rfl, rfl, he, hy, hW1, hK1⟩ := hrel
    have hp := Lib.uvarint_pos y
    have hk : pre.length < 10 := by have := congrArg List.length he; simp only [List.length_append] at this; omega
    obtain ⟨v, hv⟩ : ∃ v, (puts cs 0 (Lib.byteCells pre))[pre.length]? = some v := ⟨_, Array.getElem?_eq_getElem (by rw [puts_size]; omega)⟩
    have hc : wr.cell? ⟨g, pre.length, none⟩ = some v := (hW1.cell _).trans hv
    have hf := hW1.frozen pre.length
    clear hv
    have HE := Lib.hid he
    clear he hl hs
    by_cases hlt : 128 ≤ y
    · have hb : Go.bits .or .u8 ((y : Int) % 256) 128 = ((y % 128 + 128 : Nat) : Int) := by rw [Lib.u8_or128_any _ (by omega) (by omega)]; omega
      have HB := Lib.hid hb
      clear hb
      go_wp2
      go_roundw
      case rel =>
        refine ⟨y / 128, pre ++ [(y % 128 + 128).toUInt8], by simp, by go_num, ?_, by omega, ?_, hK1.setCell (.inl rfl) _⟩
        · rw [HE.out, Lib.uvarint_big hlt]; simp
        · rw [byteCells_snoc _ (by omega), puts_snoc, Nat.zero_add, Lib.byteCells_length, ← HB.out]
          exact hW1.put _ _
      case measure => simp [intOf]; omega
    · have hb : (y : Int) % 256 = ((y : Nat) : Int) := by omega
      have hu := Lib.uvarint_small (x := y) (by omega)
      have HU := Lib.hid hu
      clear hu
      go_wp2
      go_ret
      refine ⟨?_, ?_, hK1.setCell (.inl rfl) _⟩
      · rw [HE.out, HU.out]; simp
      · rw [HE.out, HU.out, byteCells_snoc _ (by omega), puts_snoc, Nat.zero_add, Lib.byteCells_length]
        exact hW1.put _ _
end Go.Proofs.YtpbnhhfpbadhjaaGreat
