/- A column of bit planes made and asked for its type. Conditions: none. -/
import Derived.Test.YtpbnhhfpbadhjaaGreatTyE
namespace Go.Proofs.YtpbnhhfpbadhjaaGreat
open Go.RowKit Go.Lib
set_option linter.unusedVariables false
set_option maxRecDepth 100000 in
set_option maxHeartbeats 1000000 in
theorem qWidth (w : World) : Calls Tryz.prog 36 #[.string ⟨#[70, 108, 111, 97, 116, 51, 50]⟩] w fun e w' => e = .returned (.tuple #[.int .i64 32, .nilIface]) ∧ w = w' := by
  go_enter Tryz.func36, Tryz.ntmps36
  go_wp2_with fail
  go_ret2
  exact ⟨rfl, rfl⟩
theorem infoRow : (Tryz.prog.info? 33).map (fun i => (i.zero, i.size, i.bytes)) = some (some (.slice none 0 0), 1, 24) := by kernel_rfl
theorem infoByte : (Tryz.prog.info? 5).map (fun i => (i.zero, i.size, i.bytes)) = some (some (.int .u8 0), 1, 1) := by kernel_rfl
set_option maxRecDepth 100000 in
set_option maxHeartbeats 2000000 in
theorem newQ (w : World) : Calls Tryz.prog 16 #[.string ⟨#[70, 108, 111, 97, 116, 51, 50]⟩, .int .i64 3] w fun e w' => ∃ g c4, e = .returned (.tuple #[.pointer (some ⟨g, 0, none⟩), .nilIface]) ∧ Keeps (fun _ => False) w w' ∧ Whole w' g 97 #[.string ⟨#[70, 108, 111, 97, 116, 51, 50]⟩, .int .i64 3, .int .i64 32, .int .i64 1, c4, .int .i64 0] := by
  have HW := Lib.hid (qWidth w)
  go_enter Tryz.func16, Tryz.ntmps16
  go_wp2_with fail
  refine HW.out.mono ?_
  rintro e w1 ⟨rfl, rfl⟩
  obtain ⟨i0, hi0, hz0, hz1, hz2⟩ := info_parts infoRow
  obtain ⟨u0, hu0, hv0, hv1, hv2⟩ := info_parts infoByte
  have hmk : (Instr.makeSlice 42 (.int .i64 32) (.int .i64 32)).run Tryz.prog w = .ok (.slice (some ⟨w.heap.size, 0, none⟩) 32 32) (w.alloc (.cells (madeCells (Value.slice none 0 0).cells 32) 33)) := by
    have h := run_make (P := Tryz.prog) w 42 33 i0 (.slice none 0 0) Tryz.underlying42 hi0 hz0 .i64 .i64 32 32 (by omega) (by omega) (by rw [hz2]; omega) (by omega)
    rw [hz1] at h
    exact h
  have hm0 : ∀ w : World, (Instr.makeSlice 33 (.int .i64 0) (.int .i64 0)).run Tryz.prog w = .ok (.slice (some ⟨w.heap.size, 0, none⟩) 0 0) (w.alloc (.cells (madeCells (Value.int .u8 0).cells 0) 5)) := fun w => by
    have h := run_make (P := Tryz.prog) w 33 5 u0 (.int .u8 0) Tryz.underlying33 hu0 hv0 .i64 .i64 0 0 (by omega) (by omega) (by rw [hv2]; omega) (by omega)
    rw [hv1] at h
    exact h
  have hcs : (madeCells (Value.slice none 0 0).cells 32).size = 32 := size_madeCells _ _
  generalize madeCells (Value.slice none 0 0).cells 32 = C at *
  generalize madeCells (Value.int .u8 0).cells 0 = D at *
  have HWC := Lib.hid (Whole.new w 33 C)
  have HK0 := Lib.hid (kal w (.cells C 33))
  have HCS := Lib.hid hcs
  clear hcs
  go_wp2_with fail
  go_loopw [30, 11] (fun i _ wr => ∃ (k : Nat) (cs : Array Value), k ≤ 32 ∧ i = .int .i64 k ∧ cs.size = 32 ∧ Whole wr w.heap.size 33 cs ∧ Keeps (fun _ => False) w wr) (fun i _ _ => 32 - (RowKit.intOf i).toNat)
  case atStart => exact ⟨0, C, by omega, rfl, HCS.out, HWC.out, HK0.out⟩
  case round =>
    obtain ⟨k, cs, hk, rfl, hcs, hW, hK⟩ := hrel
    by_cases hlt : k < 32
    · have hc := hW.cell k
      have hfz := hW.frozen k
      have hc2 : wr.cell? ⟨w.heap.size, k, none⟩ = some (cs[k]'(by omega)) := by rw [hc]; exact Array.getElem?_eq_getElem (by omega)
      have HW2 := Lib.hid ((hW.put k (.slice (some ⟨wr.heap.size, 0, none⟩) 0 0)).alloc (.cells D 5))
      have HK2 := Lib.hid ((hK.setCell (p := ⟨w.heap.size, k, none⟩) (.inr (Nat.le_refl _)) (.slice (some ⟨wr.heap.size, 0, none⟩) 0 0)).alloc (.cells D 5))
      have hlW := hW.lt
      go_wp2_with fail
      go_roundw
      case rel => exact ⟨k + 1, _, by omega, by go_num, by simpa using hcs, HW2.out, HK2.out⟩
      case measure => (first | (simp [RowKit.intOf]; done) | (simp [RowKit.intOf]; omega))
    · obtain rfl : k = 32 := by omega
      go_wp2_with fail
      go_ret2
      exact ⟨_, _, rfl, hK.alloc _, Whole.new wr 97 _⟩
theorem iTyQ : (Tryz.prog.info? 45).map (fun i => (i.methods.find? (·.name == "Type")).map (fun m => (m.path.toList.length, m.func))) = some (some (0, some (85, true))) := by kernel_rfl
theorem fTyQ (args : Array Value) (w : World) : (callFunc 85 args).run Tryz.prog w = .ok (.enter 85 args) w := by kernel_rfl
theorem mTyQ (w : World) (g : Nat) (fuel : Nat) : (method (fuel + 1) 45 (.pointer (some ⟨g, 0, none⟩)) "Type").run Tryz.prog w = .ok (85, .pointer (some ⟨g, 0, none⟩)) w := by
  obtain ⟨i, m, h1, h2, h3, h4⟩ := method_row iTyQ
  exact method_ptr h1 h2 h3 h4 Tryz.underlying45
set_option maxRecDepth 100000 in
set_option maxHeartbeats 1000000 in
theorem tyQ (w : World) (g : Nat) (c4 : Value) (hW : Whole w g 97 #[.string ⟨#[70, 108, 111, 97, 116, 51, 50]⟩, .int .i64 3, .int .i64 32, .int .i64 1, c4, .int .i64 0]) : Calls Tryz.prog 85 #[.pointer (some ⟨g, 0, none⟩)] w fun e w' => TyRes w ⟨#[81, 66, 105, 116, 40, 70, 108, 111, 97, 116, 51, 50, 44, 32, 51, 41]⟩ e w' := by
  have h0 : w.cell? ⟨g, 0, none⟩ = some (.string ⟨#[70, 108, 111, 97, 116, 51, 50]⟩) := hW.cell 0
  have h1 : w.cell? ⟨g, 1, none⟩ = some (.int .i64 3) := hW.cell 1
  have HI := Lib.hid (show ∀ z, Calls Tryz.prog 89 #[.int .i64 3] (w.drewN z) fun e w' => e = .returned (.string ⟨#[51]⟩) ∧ ∃ n, w' = (w.drewN z).drewN n from fun z => (Tryz.strconv_Itoa_small 3 (by omega) (w.drewN z)).mono fun e w' h => ⟨h.1.trans (by rw [show (Lib.decDigits 3).toArray = #[51] from by decide +kernel]), 0, h.2⟩)
  have HK := Lib.hid (Keeps.refl (fun _ => False) w).drew
  clear hW
  go_enter Tryz.func85, Tryz.ntmps85
  go_wp2_with fail
  go_quiet ((go_at_call 89; exact Calls.quiet_of (HI.out _)))
  go_wp2_with fail
  go_ret
  exact ⟨congrArg (fun s => Ending.returned (Value.string s)) (by decide), (Keeps.refl _ _).drewN _⟩
theorem hasQ {w : World} {g : Nat} {c4 : Value} (hW : Whole w g 97 #[.string ⟨#[70, 108, 111, 97, 116, 51, 50]⟩, .int .i64 3, .int .i64 32, .int .i64 1, c4, .int .i64 0]) : HasTy w (.iface 45 (.pointer (some ⟨g, 0, none⟩))) ⟨#[81, 66, 105, 116, 40, 70, 108, 111, 97, 116, 51, 50, 44, 32, 51, 41]⟩ :=
  ⟨_, _, _, _, rfl, fTyQ, fun w2 K => ⟨mTyQ w2 g, tyQ w2 g c4 (hW.keeps K (fun h => h))⟩⟩
end Go.Proofs.YtpbnhhfpbadhjaaGreat
