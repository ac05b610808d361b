/- NCDecode of numbers of 16 bits, the second column empty. Conditions: the bytes are there; sizes far below the machine's. -/
import Derived.Test.YtoilbojaenfalaaGreatKe
import Derived.Test.YtoilbojaenfalaaGreatD16
import Derived.Test.YtoilbojaenfalaaGreatGot
namespace Go.Proofs.YtoilbojaenfalaaGreat
open Go.RowKit Go.Lib
set_option linter.unusedVariables false
theorem iKDec8 : (Tryz.prog.info? 127).map (fun i => (i.methods.find? (·.name == "DecodeColumn")).map (fun m => (m.path.toList.length, m.func))) = some (some (0, some (209, true))) := by kernel_rfl
theorem mKDec8 (w : World) (g : Nat) (fuel : Nat) : (method (fuel + 1) 127 (.pointer (some ⟨g, 0, none⟩)) "DecodeColumn").run Tryz.prog w = .ok (209, .pointer (some ⟨g, 0, none⟩)) w := by
  obtain ⟨i, m, h1, h2, h3, h4⟩ := method_row iKDec8
  exact method_ptr h1 h2 h3 h4 Tryz.underlying127
theorem eKDec8 : (Tryz.prog.info? 135).map (fun i => (i.methods.find? (·.name == "DecodeColumn")).map (fun m => (m.path.toList.map (fun s => (s.struct, s.index, s.deref)), m.func))) = some (some ([(135, 0, false)], none)) := by kernel_rfl
theorem mNDec8 (w : World) (g : Nat) (fuel : Nat) : (method (fuel + 1 + 1) 135 (.agg #[.iface 127 (.pointer (some ⟨g, 0, none⟩)), .func (.func 35) #[] #[], .func (.func 36) #[] #[]]) "DecodeColumn").run Tryz.prog w = .ok (209, .pointer (some ⟨g, 0, none⟩)) w :=
  (method_emb eKDec8 Tryz.underlying135 rfl rfl (fun w => by simp [isAgg, run_underlying Tryz.underlying133]) rfl).trans (mKDec8 w g fuel)
set_option maxRecDepth 100000 in
set_option maxHeartbeats 2000000 in
theorem kDecZero8 (w : World) (g r : Nat) : Calls Tryz.prog 209 #[.pointer (some ⟨g, 0, none⟩), .pointer (some ⟨r, 0, none⟩), .int .i64 0] w fun e w' => e = .returned .nilIface ∧ w = w' := by
  go_enter Tryz.func209, Tryz.ntmps209
  go_wp2_with fail
  go_ret
  exact ⟨rfl, rfl⟩
set_option maxRecDepth 100000 in
set_option maxHeartbeats 4000000 in
theorem kDecode8 (w : World) (D : Option Addr) (c n len : Nat) (xs : List Nat) (hl : xs.length = n) (h0 : 0 < n) (hn : n ≤ 100000) (hx : ∀ x ∈ xs, x < 65536) (hlen : (u16s xs).length = len) (hR : Rd w 1 D len (Lib.byteCells (u16s xs))) (hc : len ≤ c) (hD : ∀ i, ob D = some i → i < w.heap.size) :
    Calls Tryz.prog 14 #[.int .i64 8, .slice D len c, .int .i64 (n : Int), .int .i64 0] w fun e w' => ∃ B d B2 d2, e = .returned (.tuple #[.slice B n d, .slice B2 0 d2, .bool true]) ∧ w'.ownsRow w.heap.size 29 4 (.slice B n d) n (xs.map rowN).flatten ∧ Keeps (fun _ => False) w w' := by
  have KD := Lib.hid ((((Keeps.refl (fun _ => False) w).alloc (.cells #[.bool false] 4)).alloc (.cells #[.slice none 0 0] 129)).alloc (.cells #[.slice none 0 0] 129))
  have HCol := Lib.hid (fun w => kcol8 w)
  have hNR := newReader (((w.alloc (.cells #[.bool false] 4)).alloc (.cells #[.slice none 0 0] 129)).alloc (.cells #[.slice none 0 0] 129)) D c (u16s xs) (by rw [hlen]; exact hR.keeps KD.out (fun _ _ h => h)) (by omega) (fun i hi => by have := hD i hi; have := KD.out.size; omega)
  rw [hlen] at hNR
  have HNR := Lib.hid hNR
  have HX := Lib.hid hx
  have HL := Lib.hid hl
  have HLen := Lib.hid hlen
  have HD := Lib.hid hD
  have BF := Lib.hid ((((Whole.new w 4 #[.bool false]).alloc (.cells #[.slice none 0 0] 129)).alloc (.cells #[.slice none 0 0] 129)))
  have hb1 := (Whole.new (w.alloc (.cells #[.bool false] 4)) 129 #[.slice none 0 0]).alloc (.cells #[.slice none 0 0] 129)
  have hb2 := Whole.new ((w.alloc (.cells #[.bool false] 4)).alloc (.cells #[.slice none 0 0] 129)) 129 #[.slice none 0 0]
  simp only [World.size_alloc] at hb1 hb2
  have B1 := Lib.hid hb1
  have B2 := Lib.hid hb2
  have hmd := mNDec8
  have hn0 : ¬ ((n : Int) = 0) := by omega
  clear hNR hR hx hl hlen hb1 hb2 hD
  go_enter_defers Tryz.func14, Tryz.ntmps14
  go_wp2_with fail
  refine (HCol.out _).mono ?_
  rintro e w1 ⟨rfl, rfl⟩
  go_wp2_with fail
  refine (HCol.out _).mono ?_
  rintro e w1 ⟨rfl, rfl⟩
  go_wp2_with fail
  refine HNR.out.mono ?_
  rintro e w3 ⟨rfl, hR3, K3, hs3⟩
  simp only [World.size_alloc] at hR3 hs3
  have c1 := B1.out.keeps K3 (fun h => h)
  have HDE := Lib.hid (decU16 w3 _ _ _ (w.heap.size + 1) _ _ n xs [] HL.out h0 hn (fun x h => by have := HX.out x h; omega) (by rw [List.append_nil]; exact hR3) (c1.cell 0) (c1.frozen 0) (by rintro (h | h | h) <;> first | omega | cases h) c1.lt)
  have HK3 := Lib.hid (KD.out.trans K3 (fun _ _ h => h))
  have C1 := Lib.hid c1
  have C2 := Lib.hid (B2.out.keeps K3 (fun h => h))
  have CF := Lib.hid (BF.out.keeps K3 (fun h => h))
  clear hR3 K3 c1
  go_wp2_with fail
  refine HDE.out.mono ?_
  rintro e w4 ⟨A1, d1, w2, rfl, rfl, hO2, hGo⟩
  simp only [List.length_map, HL.out] at hO2 ⊢
  have hlo2 := hO2.lt
  rw [ownBlock_slice] at hlo2
  have hs32 := hGo.keeps.size
  have hnk : ∀ j, j < w.heap.size + 3 → ¬ (j = w.heap.size + 1 + 1 + 1 + 1 ∨ j = w.heap.size + 1 + 1 + 1 ∨ (none : Option Nat) = some j) := by
    rintro j hj (h | h | h)
    · omega
    · omega
    · cases h
  have b1 := C1.out.keeps hGo.keeps (hnk _ (by omega))
  have b2 := C2.out.keeps hGo.keeps (hnk _ (by omega))
  have bf := CF.out.keeps hGo.keeps (hnk _ (by omega))
  have K4 := (Keeps.refl (fun i => i = w.heap.size + 1) w2).setCell (p := ⟨w.heap.size + 1, 0, none⟩) (.inl rfl) (.slice A1 n d1)
  have KA : KAt 129 70 (w2.setCell ⟨w.heap.size + 1, 0, none⟩ (.slice A1 n d1)) w.heap.size (w.heap.size + 1) A1 n d1 (nw xs .u16) := ⟨b1.put 0 _, own_keeps (own_low hO2 HK3.out.size) K4 (fun q hq h => by rw [ownBlock_slice] at hq; have := (hlo2 q hq).1; omega), by omega⟩
  have HAL := Lib.hid (kall8 _ _ _ _ _ _ xs KA HL.out HX.out hn)
  have KW := Lib.hid ((HK3.out.trans hGo.keeps (S := fun _ => False) (fun i hi h => by
    rcases h with h | h | h
    · omega
    · omega
    · cases h)).trans K4 (fun i hi h => by omega))
  have D2 := Lib.hid (b2.keeps K4 (by omega))
  have DF := Lib.hid (bf.keeps K4 (by omega))
  clear hO2 hGo b1 b2 bf K4 KA hlo2
  go_wp2_with fail
  refine HAL.out.mono ?_
  rintro e w5 ⟨B, dB, rfl, hB, K5⟩
  have e2 := D2.out.keeps K5 (fun h => h)
  have KA2 : KAt 129 70 w5 w.heap.size (w.heap.size + 1 + 1) none 0 0 (nw [] .u16) := ⟨e2, World.ownsRow_nil _ _ _ _, by omega⟩
  have HAL2 := Lib.hid (kall8 _ _ _ _ _ _ [] KA2 rfl (fun x h => by cases h) (by omega))
  have HZ := Lib.hid (fun g r => kDecZero8 w5 g r)
  have HB := Lib.hid (own_low hB (Nat.succ_le_of_lt DF.out.lt))
  have K5W := Lib.hid (KW.out.trans K5 (fun _ _ h => h))
  have EF := Lib.hid (DF.out.keeps K5 (fun h => h))
  clear hB K5 e2 KA2
  go_wp2_with fail
  refine (HZ.out _ _).mono ?_
  rintro e w6 ⟨rfl, rfl⟩
  go_wp2_with fail
  refine HAL2.out.mono ?_
  rintro e w7 ⟨B2, dB2, rfl, hB2, K7⟩
  have FF := EF.out.keeps K7 (fun h => h)
  have hlF := FF.lt
  have hcb : w7.cell? ⟨w.heap.size, 0, none⟩ = some (.bool false) := FF.cell 0
  have hfz : w7.frozen? ⟨w.heap.size, 0, none⟩ = false := FF.frozen 0
  have HB7 := Lib.hid (own_keeps HB.out K7 (fun _ _ h => h))
  have K7W := Lib.hid (K5W.out.trans K7 (fun _ _ h => h))
  clear hB2 K7
  go_wp2
  refine leaves_cons (f := 42) (args := #[.pointer (some ⟨w.heap.size, 0, none⟩)]) (by simp) (by simp [go_sem]) ?_
  refine (caughtIdle ⟨w.heap.size, 0, none⟩ _).mono ?_
  rintro e u' w'' ⟨rfl, rfl, rfl⟩
  have hb' : (w7.setCell ⟨w.heap.size, 0, none⟩ (.bool true)).cell? ⟨w.heap.size, 0, none⟩ = some (.bool true) := World.cell?_setCell_same _ _ _ hcb
  simp [Leaves, settle, results, Tryz.results14, go_sem, hb']
  have K8 := (Keeps.refl (fun i => i = w.heap.size) w7).setCell (p := ⟨w.heap.size, 0, none⟩) (.inl rfl) (.bool true)
  have hq7 := HB7.out.lt
  rw [ownBlock_slice] at hq7
  exact ⟨B, dB, ⟨rfl, rfl⟩, own_low (own_keeps HB7.out K8 (fun q hq h => by rw [ownBlock_slice] at hq; have := (hq7 q hq).1; omega)) (Nat.le_succ _), K7W.out.trans K8 (fun i hi h => by omega)⟩
end Go.Proofs.YtoilbojaenfalaaGreat
