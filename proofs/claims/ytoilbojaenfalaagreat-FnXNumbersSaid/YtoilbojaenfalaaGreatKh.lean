/- ncAwake: the law's own look that numbers are read and written. Conditions: none. -/
import Derived.Test.YtoilbojaenfalaaGreatKg
import Derived.Test.YtoilbojaenfalaaGreatEq
namespace Go.Proofs.YtoilbojaenfalaaGreat
open Go.RowKit Go.Lib
set_option linter.unusedVariables false
theorem Rd.wholeN {w : World} {g s n : Nat} {t : TypeId} {cs : Array Value} {xs : List Value} (h : Whole w g t cs) (hx : cs.toList = xs) (hn : xs.length = n * s) : Rd w s (some ⟨g, 0, none⟩) n xs :=
  ⟨hn, fun _ => ⟨_, rfl, h.lt, fun j u hu => by rw [add_lit', Nat.zero_add, h.cell j, ← Array.getElem?_toList, hx]; exact hu⟩⟩
set_option maxRecDepth 100000 in
set_option maxHeartbeats 2000000 in
theorem ncAwake (w : World) : Calls Tryz.prog 9 #[] w fun e w' => e = .returned (.bool true) ∧ Keeps (fun _ => False) w w' := by
  have hWB := Whole.new w 5 #[.int .u8 1, .int .u8 2]
  have KB := Lib.hid ((Keeps.refl (fun _ => False) w).alloc (.cells #[.int .u8 1, .int .u8 2] 5))
  have HD := Lib.hid (show Calls Tryz.prog 14 #[.int .i64 8, .slice (some ⟨w.heap.size, 0, none⟩) 2 2, .int .i64 1, .int .i64 0] (w.alloc (.cells #[.int .u8 1, .int .u8 2] 5)) _ from kDecode8 (w.alloc (.cells #[.int .u8 1, .int .u8 2] 5)) (some ⟨w.heap.size, 0, none⟩) 2 1 2 [513] rfl (by omega) (by omega) (fun x h => by rw [List.mem_singleton.1 h]; omega) rfl (Rd.wholeN hWB rfl rfl) (by omega) (fun i hi => by
    have := hWB.lt
    injection hi with hi
    rw [← hi]; exact this))
  have HE := Lib.hid (fun w => kEncode8 (w.alloc (.cells #[.int .u64 513, .int .u64 0, .int .u64 0, .int .u64 0, .int .u64 7, .int .u64 0, .int .u64 0, .int .u64 0] 29)) (some ⟨w.heap.size, 0, none⟩) 2 2 [(513, 0, 0, 0), (7, 0, 0, 0)] [513, 7] ⟨rfl, Rd.wholeN (Whole.new w 29 #[.int .u64 513, .int .u64 0, .int .u64 0, .int .u64 0, .int .u64 7, .int .u64 0, .int .u64 0, .int .u64 0]) rfl rfl⟩ rfl (fun x h => by
    simp only [List.mem_cons, List.not_mem_nil, or_false] at h
    rcases h with rfl | rfl <;> omega) (by omega))
  clear hWB
  go_enter Tryz.func9, Tryz.ntmps9
  go_wp2_with fail
  refine HD.out.mono ?_
  rintro e w1 ⟨B, d, B2, d2, rfl, hO, K1⟩
  have HO := Lib.hid hO
  have HK1 := Lib.hid (KB.out.trans K1 (fun _ _ h => h))
  clear hO K1
  go_wp2_with fail
  refine (HE.out _).mono ?_
  rintro e w2 ⟨A2, c2, rfl, hO2, K2⟩
  have HO2 := Lib.hid hO2
  have HK2 := Lib.hid (((HK1.out).alloc (.cells #[.int .u64 513, .int .u64 0, .int .u64 0, .int .u64 0, .int .u64 7, .int .u64 0, .int .u64 0, .int .u64 0] 29)).trans K2 (fun _ _ h => h))
  have HOB := Lib.hid (own_keeps (own_keeps HO.out ((Keeps.refl (fun _ => False) w1).alloc (.cells #[.int .u64 513, .int .u64 0, .int .u64 0, .int .u64 0, .int .u64 7, .int .u64 0, .int .u64 0, .int .u64 0] 29)) (fun _ _ h => h)) K2 (fun _ _ h => h))
  clear hO2 K2
  go_wp2_with fail
  have HQ := Lib.hid (bytesEq (w2.alloc (.cells #[.int .u8 1, .int .u8 2, .int .u8 7, .int .u8 0] 5)) A2 (some ⟨w2.heap.size, 0, none⟩) _ c2 4 4 (u16s [513, 7]) [1, 2, 7, 0] (Rd.own (own_keeps HO2.out ((Keeps.refl (fun _ => False) w2).alloc (.cells #[.int .u8 1, .int .u8 2, .int .u8 7, .int .u8 0] 5)) (fun _ _ h => h))) (Rd.wholeN (Whole.new w2 5 #[.int .u8 1, .int .u8 2, .int .u8 7, .int .u8 0]) rfl rfl))
  refine HQ.out.mono ?_
  rintro e w3 ⟨rfl, rfl⟩
  rw [show decide (u16s [513, 7] = [1, 2, 7, 0]) = true from by decide]
  have KX := (((Keeps.refl (fun _ => False) w2).alloc (.cells #[.int .u8 1, .int .u8 2, .int .u8 7, .int .u8 0] 5)).alloc (.cells #[.int .u64 513, .int .u64 0, .int .u64 0, .int .u64 0] 29))
  have HRE := Lib.hid (rowsEqual _ B (some ⟨(w2.alloc (.cells #[.int .u8 1, .int .u8 2, .int .u8 7, .int .u8 0] 5)).heap.size, 0, none⟩) 1 d 1 [(513, 0, 0, 0)] ⟨rfl, Rd.own (own_keeps HOB.out KX (fun _ _ h => h))⟩ ⟨rfl, Rd.wholeN (Whole.new (w2.alloc (.cells #[.int .u8 1, .int .u8 2, .int .u8 7, .int .u8 0] 5)) 29 #[.int .u64 513, .int .u64 0, .int .u64 0, .int .u64 0]) rfl rfl⟩ (by omega))
  simp only [World.size_alloc] at HRE
  have HKX := Lib.hid (HK2.out.trans KX (fun _ _ h => h))
  clear KX
  go_wp2_with fail
  refine HRE.out.mono ?_
  rintro e w4 ⟨rfl, m, rfl⟩
  go_wp2_with fail
  go_ret
  exact ⟨rfl, HKX.out.drewN _⟩
end Go.Proofs.YtoilbojaenfalaaGreat
