/- ReadRaw: the next bytes, as a row of the reader's own; a slice of zeros; two slices joined. Conditions as in the texts of the reader. -/
import Derived.Test.YtoilbojaenfalaaGreatRd2
import Derived.Test.YtoilbojaenfalaaGreatPut
namespace Go.Proofs.YtoilbojaenfalaaGreat
open Go.RowKit

theorem made_bytes (n : Nat) : (madeCells (Value.int .u8 0).cells (n * 1)).toList = Lib.byteCells (List.replicate n 0) := by
  apply List.ext_getElem?
  intro i
  simp only [Array.getElem?_toList, madeCells, Value.cells, Nat.mul_one, Lib.byteCells, List.getElem?_map, Array.getElem?_map]
  by_cases h : i < n
  · simp [h, Nat.mod_one]
  · simp [h]

set_option maxHeartbeats 400000 in
theorem readRaw_ok (w : World) (base rb bb : Nat) (D R : Option Nat) (l d : List UInt8) (m : Nat) (hl : l.length = m) (hR : RdrOn w base rb bb D R (l ++ d)) (hM : m ≤ 140737488355328) :
    Calls Tryz.prog 97 #[.pointer (some ⟨rb, 0, none⟩), .int .i64 m] w fun e w' => ∃ A c, e = .returned (.tuple #[.slice A m c, .nilIface]) ∧ w'.ownsRow base 5 1 (.slice A m c) m (Lib.byteCells l) ∧ RdrGo w w' base rb bb D R d := by
  obtain ⟨A, c, C, n, k, q, hA, hD, rfl⟩ := hR
  subst hl
  go_enter Tryz.func97, Tryz.ntmps97
  go_wp2_with fail
  refine (readFull_ok w base rb bb A c (l ++ d) C n k l.length q hA (by simp) hM).mono ?_
  rw [List.drop_left, List.take_left]
  rintro e w1 ⟨A1, c1, C1, k1, rfl, hR1, hK1, hA1, hC1⟩
  have hc1 : w1.cell? ⟨rb, 1, none⟩ = some (.pointer (some ⟨bb, 0, none⟩)) := hR1.rdr.cell 1
  have hc3 : w1.cell? ⟨bb, 0, none⟩ = some (.slice C1 l.length k1) := hR1.blk.cell 0
  go_wp2_with fail
  refine bodyPost_ret (results_tmp2 rfl _ _ _) rfl ⟨C1, k1, rfl, hR1.own, ⟨⟨ob C1, ⟨A1, c1, C1, _, k1, _, hR1, by rw [hA1]; exact hD, rfl⟩, hC1⟩, hK1⟩⟩

set_option maxHeartbeats 400000 in
theorem readRaw_err (w : World) (base rb bb : Nat) (D R : Option Nat) (d : List UInt8) (m : Nat) (hR : RdrOn w base rb bb D R d) (hm : d.length < m) :
    Calls Tryz.prog 97 #[.pointer (some ⟨rb, 0, none⟩), .int .i64 m] w fun e w' => ∃ v, e = .returned (.tuple #[.slice none 0 0, v]) ∧ IsErr v ∧ RdrGo w w' base rb bb D R [] := by
  go_enter Tryz.func97, Tryz.ntmps97
  go_wp2_with fail
  refine (readFull_err w base rb bb D R d m hR hm).mono ?_
  rintro e w1 ⟨v, rfl, ⟨a, rfl⟩, hG⟩
  go_wp2_with (go_at_call 93; go_in)
  refine bodyPost_ret (results_tmp2 rfl _ _ _) rfl ⟨_, rfl, ⟨_, rfl⟩, hG.after ((Keeps.refl _ _).alloc _)⟩

end Go.Proofs.YtoilbojaenfalaaGreat
