/- A column of bit planes is made. Condition: the type of its elements is one of three. -/
import Derived.Test.YtfkokngjclaikaaVb
namespace Go.Proofs.Ytfkokngjclaikaa
open Go.RowKit Go.Lib
set_option linter.unusedVariables false
theorem qWidthE (e : Nat) (he : e < 3) (w : World) : Calls Try.prog 23 #[.string (eName e)] w fun e' w' => e' = .returned (.tuple #[.int .i64 (eW e : Int), .nilIface]) ∧ w = w' := by
  have h3 : e = 0 ∨ e = 1 ∨ e = 2 := by omega
  rcases h3 with rfl | rfl | rfl
  · rw [show eName 0 = ⟨#[66, 70, 108, 111, 97, 116, 49, 54]⟩ from rfl]
    go_enter Try.func23, Try.ntmps23
    go_wp2_with fail
    go_ret2
    exact ⟨rfl, rfl⟩
  · rw [show eName 1 = ⟨#[70, 108, 111, 97, 116, 51, 50]⟩ from rfl]
    go_enter Try.func23, Try.ntmps23
    go_wp2_with fail
    go_ret2
    exact ⟨rfl, rfl⟩
  · rw [show eName 2 = ⟨#[70, 108, 111, 97, 116, 54, 52]⟩ from rfl]
    go_enter Try.func23, Try.ntmps23
    go_wp2_with fail
    go_ret2
    exact ⟨rfl, rfl⟩
theorem infoRowB : (Try.prog.info? 23).map (fun i => (i.zero, i.size, i.bytes)) = some (some (.slice none 0 0), 1, 24) := by kernel_rfl
theorem infoByteB : (Try.prog.info? 5).map (fun i => (i.zero, i.size, i.bytes)) = some (some (.int .u8 0), 1, 1) := by kernel_rfl
/-- A column of W bit planes. -/
structure QAt (w : World) (g b0 : Nat) (nm : ByteArray) (n W nb : Nat) (cs : Array Value) (rows : Nat) : Prop where
  col : Whole w g 66 #[.string nm, .int .i64 (n : Int), .int .i64 (W : Int), .int .i64 (nb : Int), .slice (some ⟨b0, 0, none⟩) W W, .int .i64 (rows : Int)]
  pl : Whole w b0 23 cs
  sz : cs.size = W
theorem QAt.new {w w' : World} {g b0 : Nat} {nm : ByteArray} {n W nb : Nat} {cs : Array Value} {rows : Nat} (h : QAt w g b0 nm n W nb cs rows) (k : Keeps (fun _ => False) w w') : QAt w' g b0 nm n W nb cs rows := ⟨h.col.keeps k (fun h => h), h.pl.keeps k (fun h => h), h.sz⟩
set_option maxRecDepth 100000 in
set_option maxHeartbeats 2000000 in
theorem newQE (e : Nat) (he : e < 3) (n nb : Nat) (hn : n ≤ 1000) (hnb : nb = (n + 7) / 8) (w : World) : Calls Try.prog 13 #[.string (eName e), .int .i64 (n : Int)] w fun e' w' => ∃ cs, e' = .returned (.tuple #[.pointer (some ⟨w.heap.size + 1 + eW e, 0, none⟩), .nilIface]) ∧ Keeps (fun _ => False) w w' ∧ QAt w' (w.heap.size + 1 + eW e) w.heap.size (eName e) n (eW e) nb cs 0 ∧
    ∀ p, p < eW e → cs[p]? = some (.slice (some ⟨w.heap.size + 1 + p, 0, none⟩) 0 0) ∧ Whole w' (w.heap.size + 1 + p) 5 #[] := by
  have HW := Lib.hid (qWidthE e he w)
  have hW64 : eW e ≤ 64 := by unfold eW; split <;> (try split) <;> omega
  generalize eName e = nm at *
  generalize eW e = W at *
  have hq : ((n : Int) + 8 - 1) / 8 = (nb : Int) := by omega
  go_enter Try.func13, Try.ntmps13
  go_wp2_with fail
  refine HW.out.mono ?_
  rintro e w1 ⟨rfl, rfl⟩
  obtain ⟨i0, hi0, hz0, hz1, hz2⟩ := info_parts infoRowB
  obtain ⟨u0, hu0, hv0, hv1, hv2⟩ := info_parts infoByteB
  have hmk : (Instr.makeSlice 57 (.int .i64 (W : Int)) (.int .i64 (W : Int))).run Try.prog w = .ok (.slice (some ⟨w.heap.size, 0, none⟩) W W) (w.alloc (.cells (madeCells (Value.slice none 0 0).cells (W * 1)) 23)) := by
    have h := run_make (P := Try.prog) w 57 23 i0 (.slice none 0 0) Try.underlying57 hi0 hz0 .i64 .i64 W W (by omega) (by omega) (by rw [hz2]; omega) (by omega)
    rw [hz1] at h
    exact h
  have hm0 : ∀ w : World, (Instr.makeSlice 23 (.int .i64 0) (.int .i64 0)).run Try.prog w = .ok (.slice (some ⟨w.heap.size, 0, none⟩) 0 0) (w.alloc (.cells #[] 5)) := fun w => by
    have h := run_make (P := Try.prog) w 23 5 u0 (.int .u8 0) Try.underlying23 hu0 hv0 .i64 .i64 0 0 (by omega) (by omega) (by rw [hv2]; omega) (by omega)
    rw [hv1, show madeCells (Value.int .u8 0).cells (Int.toNat 0 * 1) = #[] from by simp [madeCells]] at h
    exact h
  have hcs : (madeCells (Value.slice none 0 0).cells (W * 1)).size = W := by rw [size_madeCells]; omega
  generalize madeCells (Value.slice none 0 0).cells (W * 1) = C at *
  have HWC := Lib.hid (Whole.new w 23 C)
  have HK0 := Lib.hid ((Keeps.refl (fun _ => False) w).alloc (.cells C 23))
  have HCS := Lib.hid hcs
  have HS0 := Lib.hid (show (w.alloc (.cells C 23)).heap.size = w.heap.size + 1 by simp)
  clear hcs
  go_wp2_with fail
  rw [hq]
  go_loopw [30, 11] (fun i _ wr => ∃ (k : Nat) (cs : Array Value), k ≤ W ∧ i = .int .i64 k ∧ Hid (cs.size = W) ∧ Hid (Whole wr w.heap.size 23 cs) ∧ Hid (Keeps (fun _ => False) w wr) ∧ Hid (wr.heap.size = w.heap.size + 1 + k) ∧ Hid (∀ p, p < k → cs[p]? = some (.slice (some ⟨w.heap.size + 1 + p, 0, none⟩) 0 0) ∧ Whole wr (w.heap.size + 1 + p) 5 #[])) (fun i _ _ => W - (RowKit.intOf i).toNat)
  case atStart => exact ⟨0, C, by omega, rfl, HCS, HWC, HK0, HS0, Lib.hid (fun p h => absurd h (by omega))⟩
  case round =>
    obtain ⟨k, cs, hk, rfl, HCS2, HW1, HK, HS, HP⟩ := hrel
    by_cases hlt : k < W
    · have hc := HW1.out.cell k
      have hfz := HW1.out.frozen k
      have hc2 : wr.cell? ⟨w.heap.size, k, none⟩ = some (cs[k]'(by rw [HCS2.out]; exact hlt)) := by rw [hc]; exact Array.getElem?_eq_getElem _
      have HW2 := Lib.hid ((HW1.out.alloc (.cells #[] 5)).put k (.slice (some ⟨wr.heap.size, 0, none⟩) 0 0))
      have HW3 := Lib.hid ((HW1.out.put k (.slice (some ⟨wr.heap.size, 0, none⟩) 0 0)).alloc (.cells #[] 5))
      have hlW := HW1.out.lt
      clear hc
      go_wp2_with fail
      go_roundw
      case rel => exact ⟨k + 1, _, by omega, by go_num, Lib.hid (by rw [Array.size_setIfInBounds]; exact HCS2.out), HW3, Lib.hid ((HK.out.setCell (p := ⟨w.heap.size, k, none⟩) (.inr (Nat.le_refl _)) _).alloc _), Lib.hid (by rw [World.size_alloc, World.size_setCell, HS.out]; omega), Lib.hid (fun p hp => by
        by_cases hpk : p = k
        · subst hpk
          refine ⟨by rw [Array.getElem?_setIfInBounds_self_of_lt (by rw [HCS2.out]; exact hlt), HS.out], ?_⟩
          have h := Whole.new (wr.setCell ⟨w.heap.size, p, none⟩ (.slice (some ⟨wr.heap.size, 0, none⟩) 0 0)) 5 #[]
          rw [World.size_setCell, HS.out] at h
          rw [HS.out]
          exact h
        · obtain ⟨h1, h2⟩ := HP.out p (by omega)
          exact ⟨by rw [Array.getElem?_setIfInBounds_ne (by omega)]; exact h1, (h2.far (p := ⟨w.heap.size, k, none⟩) (by show w.heap.size + 1 + p ≠ w.heap.size; omega) _).alloc _⟩)⟩
      case measure => (first | (simp [RowKit.intOf]; done) | (simp [RowKit.intOf]; omega))
    · obtain rfl : k = W := by omega
      have HQ := Lib.hid (Whole.new wr 66 #[.string nm, .int .i64 (n : Int), .int .i64 (k : Int), .int .i64 (nb : Int), .slice (some ⟨w.heap.size, 0, none⟩) k k, .int .i64 0])
      go_wp2_with fail
      go_ret2
      have hq := HQ.out
      rw [HS.out] at hq
      rw [show ((n : Int) + 7) / 8 = (nb : Int) by omega]
      refine ⟨cs, by rw [HS.out]; rfl, HK.out.alloc _, ⟨hq, HW1.out.alloc _, HCS2.out⟩, fun p hp => ⟨(HP.out p hp).1, (HP.out p hp).2.alloc _⟩⟩
end Go.Proofs.Ytfkokngjclaikaa
