/- ARTypes: the types of nine columns. Conditions: none. -/
import Derived.Test.YtpbnhhfpbadhjaaGreatTyQ
namespace Go.Proofs.YtpbnhhfpbadhjaaGreat
open Go.RowKit Go.Lib
set_option linter.unusedVariables false
theorem own_low {w : World} {b b' : Nat} {e : TypeId} {size n : Nat} {v : Value} {xs : List Value} (h : w.ownsRow b e size v n xs) (hb : b' ≤ b) : w.ownsRow b' e size v n xs := by
  refine ⟨h.1, ?_⟩
  rcases h.2 with hn | ⟨g', cap, cur, rfl, hlo, rest⟩
  · exact .inl hn
  · exact .inr ⟨g', cap, cur, rfl, Nat.le_trans hb hlo, rest⟩
def nine : List ByteArray := [ctS ⟨#[65, 114, 114, 97, 121]⟩ [⟨#[83, 116, 114, 105, 110, 103]⟩], ctS ⟨#[65, 114, 114, 97, 121]⟩ [ctS ⟨#[65, 114, 114, 97, 121]⟩ [⟨#[83, 116, 114, 105, 110, 103]⟩]], ctS ⟨#[78, 117, 108, 108, 97, 98, 108, 101]⟩ [⟨#[83, 116, 114, 105, 110, 103]⟩], ctS ⟨#[65, 114, 114, 97, 121]⟩ [ctS ⟨#[78, 117, 108, 108, 97, 98, 108, 101]⟩ [⟨#[83, 116, 114, 105, 110, 103]⟩]], ctS ⟨#[76, 111, 119, 67, 97, 114, 100, 105, 110, 97, 108, 105, 116, 121]⟩ [⟨#[83, 116, 114, 105, 110, 103]⟩], ctS ⟨#[77, 97, 112]⟩ [⟨#[83, 116, 114, 105, 110, 103]⟩, ⟨#[83, 116, 114, 105, 110, 103]⟩], ctS ⟨#[84, 117, 112, 108, 101]⟩ [⟨#[83, 116, 114, 105, 110, 103]⟩, ⟨#[85, 73, 110, 116, 51, 50]⟩, ctS ⟨#[65, 114, 114, 97, 121]⟩ [⟨#[83, 116, 114, 105, 110, 103]⟩]], ctS ⟨#[84, 117, 112, 108, 101]⟩ [⟨#[97, 32, 83, 116, 114, 105, 110, 103]⟩, ⟨#[98, 32, 85, 73, 110, 116, 51, 50]⟩], ⟨#[81, 66, 105, 116, 40, 70, 108, 111, 97, 116, 51, 50, 44, 32, 51, 41]⟩]
theorem u32NewTy (w : World) : HasTy (w.alloc (.cells #[.slice none 0 0] 68)) (.iface 67 (.pointer (some ⟨w.heap.size, 0, none⟩))) ⟨#[85, 73, 110, 116, 51, 50]⟩ := hasU32 (Whole.new w 68 #[.slice none 0 0])
set_option maxRecDepth 100000 in
set_option maxHeartbeats 4000000 in
theorem arTypes (w : World) : Calls Tryz.prog 5 #[] w fun e w' => ∃ A c, e = .returned (.slice A 9 c) ∧ w'.ownsRow w.heap.size 9 1 (.slice A 9 c) 9 (nine.map Value.string) ∧ Keeps (fun _ => False) w w' := by
  have HQ := Lib.hid (newQ w)
  have HS := Lib.hid newStrs
  have HD := Lib.hid newDeep
  have HN := Lib.hid newNul
  have HM := Lib.hid newMaybes
  have HL := Lib.hid newLc
  have HP := Lib.hid newMaps
  have HA := Lib.hid newNmS
  have HB := Lib.hid newNmU
  go_enter Tryz.func5, Tryz.ntmps5
  go_wp2_with fail
  refine HQ.out.mono ?_
  rintro e w0 ⟨gq, c4, rfl, K0, hQ⟩
  have hq := hasQ hQ
  have TQ := Lib.hid hq
  have KK := Lib.hid K0
  clear hQ hq K0
  go_wp2_with fail
  refine (HS.out w0).mono ?_
  rintro e w1 ⟨g1, rfl, K1, hT⟩
  have KS := Lib.hid K1
  have TQ := Lib.hid (TQ.out.keeps KS.out)
  have KK := Lib.hid (KK.out.trans KS.out (fun _ _ h => h))
  have T1 := Lib.hid hT
  clear hT K1 KS
  go_wp2_with fail
  refine (HD.out w1).mono ?_
  rintro e w2 ⟨g2, rfl, K1, hT⟩
  have KS := Lib.hid K1
  have TQ := Lib.hid (TQ.out.keeps KS.out)
  have T1 := Lib.hid (T1.out.keeps KS.out)
  have KK := Lib.hid (KK.out.trans KS.out (fun _ _ h => h))
  have T2 := Lib.hid hT
  clear hT K1 KS
  go_wp2_with fail
  refine (HN.out _ _ (strNewTy w2)).mono ?_
  rintro e w3 ⟨g3, rfl, K1, hT⟩
  have KS := Lib.hid ((kal w2 (.cells #[.slice none 0 0, .slice none 0 0] 59)).trans K1 (fun _ _ h => h))
  have TQ := Lib.hid (TQ.out.keeps KS.out)
  have T1 := Lib.hid (T1.out.keeps KS.out)
  have T2 := Lib.hid (T2.out.keeps KS.out)
  have KK := Lib.hid (KK.out.trans KS.out (fun _ _ h => h))
  have T3 := Lib.hid hT
  clear hT K1 KS
  go_wp2_with fail
  refine (HM.out w3).mono ?_
  rintro e w4 ⟨g4, rfl, K1, hT⟩
  have KS := Lib.hid K1
  have TQ := Lib.hid (TQ.out.keeps KS.out)
  have T1 := Lib.hid (T1.out.keeps KS.out)
  have T2 := Lib.hid (T2.out.keeps KS.out)
  have T3 := Lib.hid (T3.out.keeps KS.out)
  have KK := Lib.hid (KK.out.trans KS.out (fun _ _ h => h))
  have T4 := Lib.hid hT
  clear hT K1 KS
  go_wp2_with fail
  refine (HL.out _ _ (strNewTy w4)).mono ?_
  rintro e w5 ⟨g5, rfl, K1, hT⟩
  have KS := Lib.hid ((kal w4 (.cells #[.slice none 0 0, .slice none 0 0] 59)).trans K1 (fun _ _ h => h))
  have TQ := Lib.hid (TQ.out.keeps KS.out)
  have T1 := Lib.hid (T1.out.keeps KS.out)
  have T2 := Lib.hid (T2.out.keeps KS.out)
  have T3 := Lib.hid (T3.out.keeps KS.out)
  have T4 := Lib.hid (T4.out.keeps KS.out)
  have KK := Lib.hid (KK.out.trans KS.out (fun _ _ h => h))
  have T5 := Lib.hid hT
  clear hT K1 KS
  go_wp2_with fail
  refine (HP.out w5).mono ?_
  rintro e w6 ⟨g6, rfl, K1, hT⟩
  have KS := Lib.hid K1
  have TQ := Lib.hid (TQ.out.keeps KS.out)
  have T1 := Lib.hid (T1.out.keeps KS.out)
  have T2 := Lib.hid (T2.out.keeps KS.out)
  have T3 := Lib.hid (T3.out.keeps KS.out)
  have T4 := Lib.hid (T4.out.keeps KS.out)
  have T5 := Lib.hid (T5.out.keeps KS.out)
  have KK := Lib.hid (KK.out.trans KS.out (fun _ _ h => h))
  have T6 := Lib.hid hT
  clear hT K1 KS
  go_wp2_with fail
  have hU := u32NewTy (w6.alloc (.cells #[.slice none 0 0, .slice none 0 0] 59))
  rw [World.size_alloc] at hU
  have TU := Lib.hid hU
  have TS := Lib.hid ((strNewTy w6).keeps (kal _ (.cells #[.slice none 0 0] 68)))
  clear hU
  have KW := Lib.hid ((kal w6 (.cells #[.slice none 0 0, .slice none 0 0] 59)).trans (kal (w6.alloc (.cells #[.slice none 0 0, .slice none 0 0] 59)) (.cells #[.slice none 0 0] 68)) (fun _ _ h => h))
  have TQ := Lib.hid (TQ.out.keeps KW.out)
  have T1 := Lib.hid (T1.out.keeps KW.out)
  have T2 := Lib.hid (T2.out.keeps KW.out)
  have T3 := Lib.hid (T3.out.keeps KW.out)
  have T4 := Lib.hid (T4.out.keeps KW.out)
  have T5 := Lib.hid (T5.out.keeps KW.out)
  have T6 := Lib.hid (T6.out.keeps KW.out)
  have KK := Lib.hid (KK.out.trans KW.out (fun _ _ h => h))
  refine (HS.out ((w6.alloc (.cells #[.slice none 0 0, .slice none 0 0] 59)).alloc (.cells #[.slice none 0 0] 68))).mono ?_
  rintro e w7 ⟨g7, rfl, K1, hT⟩
  have KS := Lib.hid K1
  have TQ := Lib.hid (TQ.out.keeps KS.out)
  have T1 := Lib.hid (T1.out.keeps KS.out)
  have T2 := Lib.hid (T2.out.keeps KS.out)
  have T3 := Lib.hid (T3.out.keeps KS.out)
  have T4 := Lib.hid (T4.out.keeps KS.out)
  have T5 := Lib.hid (T5.out.keeps KS.out)
  have T6 := Lib.hid (T6.out.keeps KS.out)
  have TS := Lib.hid (TS.out.keeps KS.out)
  have TU := Lib.hid (TU.out.keeps KS.out)
  have KK := Lib.hid (KK.out.trans KS.out (fun _ _ h => h))
  have T7 := Lib.hid hT
  clear hT K1 KS
  go_wp2_with fail
  have hTT : HasTy (w7.alloc (.cells #[(.iface 56 (.pointer (some ⟨w6.heap.size, 0, none⟩))), (.iface 67 (.pointer (some ⟨w6.heap.size + 1, 0, none⟩))), (.iface 51 (.pointer (some ⟨g7, 0, none⟩)))] 77)) (.iface 70 (.slice (some ⟨w7.heap.size, 0, none⟩) 3 3)) (ctS ⟨#[84, 117, 112, 108, 101]⟩ [⟨#[83, 116, 114, 105, 110, 103]⟩, ⟨#[85, 73, 110, 116, 51, 50]⟩, ctS ⟨#[65, 114, 114, 97, 121]⟩ [⟨#[83, 116, 114, 105, 110, 103]⟩]]) :=
    hasTuple (cols := [((.iface 56 (.pointer (some ⟨w6.heap.size, 0, none⟩))), ⟨#[83, 116, 114, 105, 110, 103]⟩), ((.iface 67 (.pointer (some ⟨w6.heap.size + 1, 0, none⟩))), ⟨#[85, 73, 110, 116, 51, 50]⟩), ((.iface 51 (.pointer (some ⟨g7, 0, none⟩))), ctS ⟨#[65, 114, 114, 97, 121]⟩ [⟨#[83, 116, 114, 105, 110, 103]⟩])]) rfl (Rd.whole (Whole.new w7 77 #[(.iface 56 (.pointer (some ⟨w6.heap.size, 0, none⟩))), (.iface 67 (.pointer (some ⟨w6.heap.size + 1, 0, none⟩))), (.iface 51 (.pointer (some ⟨g7, 0, none⟩)))]) rfl rfl) (fun c hc => by
      simp only [List.mem_cons, List.not_mem_nil, or_false] at hc
      rcases hc with rfl | rfl | rfl
      · exact TS.out.keeps (kal _ _)
      · exact TU.out.keeps (kal _ _)
      · exact T7.out.keeps (kal _ _)) (by omega) (by omega) (fun c hc => by
      simp only [List.mem_cons, List.not_mem_nil, or_false] at hc
      rcases hc with rfl | rfl | rfl <;> (dsimp only; decide))
  have TT := Lib.hid (hTT.keeps (kal _ (.cells #[.slice none 0 0, .slice none 0 0] 59)))
  have hN8 := Whole.new (w7.alloc (.cells #[(.iface 56 (.pointer (some ⟨w6.heap.size, 0, none⟩))), (.iface 67 (.pointer (some ⟨w6.heap.size + 1, 0, none⟩))), (.iface 51 (.pointer (some ⟨g7, 0, none⟩)))] 77)) 59 #[.slice none 0 0, .slice none 0 0]
  rw [World.size_alloc] at hN8
  have HN8 := Lib.hid hN8
  have KW := Lib.hid ((kal w7 (.cells #[(.iface 56 (.pointer (some ⟨w6.heap.size, 0, none⟩))), (.iface 67 (.pointer (some ⟨w6.heap.size + 1, 0, none⟩))), (.iface 51 (.pointer (some ⟨g7, 0, none⟩)))] 77)).trans (kal (w7.alloc (.cells #[(.iface 56 (.pointer (some ⟨w6.heap.size, 0, none⟩))), (.iface 67 (.pointer (some ⟨w6.heap.size + 1, 0, none⟩))), (.iface 51 (.pointer (some ⟨g7, 0, none⟩)))] 77)) (.cells #[.slice none 0 0, .slice none 0 0] 59)) (fun _ _ h => h))
  clear hTT hN8 TS TU T7
  have TQ := Lib.hid (TQ.out.keeps KW.out)
  have T1 := Lib.hid (T1.out.keeps KW.out)
  have T2 := Lib.hid (T2.out.keeps KW.out)
  have T3 := Lib.hid (T3.out.keeps KW.out)
  have T4 := Lib.hid (T4.out.keeps KW.out)
  have T5 := Lib.hid (T5.out.keeps KW.out)
  have T6 := Lib.hid (T6.out.keeps KW.out)
  have KK := Lib.hid (KK.out.trans KW.out (fun _ _ h => h))
  refine (HA.out ((w7.alloc (.cells #[(.iface 56 (.pointer (some ⟨w6.heap.size, 0, none⟩))), (.iface 67 (.pointer (some ⟨w6.heap.size + 1, 0, none⟩))), (.iface 51 (.pointer (some ⟨g7, 0, none⟩)))] 77)).alloc (.cells #[.slice none 0 0, .slice none 0 0] 59)) _ _ _ HN8.out).mono ?_
  rintro e w8 ⟨g8, rfl, K1, hT⟩
  have KS := Lib.hid K1
  have TQ := Lib.hid (TQ.out.keeps KS.out)
  have T1 := Lib.hid (T1.out.keeps KS.out)
  have T2 := Lib.hid (T2.out.keeps KS.out)
  have T3 := Lib.hid (T3.out.keeps KS.out)
  have T4 := Lib.hid (T4.out.keeps KS.out)
  have T5 := Lib.hid (T5.out.keeps KS.out)
  have T6 := Lib.hid (T6.out.keeps KS.out)
  have TT := Lib.hid (TT.out.keeps KS.out)
  have KK := Lib.hid (KK.out.trans KS.out (fun _ _ h => h))
  have T8 := Lib.hid hT
  clear hT K1 KS
  go_wp2_with fail
  refine (HB.out _ _ _ (Whole.new w8 68 #[.slice none 0 0])).mono ?_
  rintro e w9 ⟨g9, rfl, K1, hT⟩
  have KS := Lib.hid ((kal w8 (.cells #[.slice none 0 0] 68)).trans K1 (fun _ _ h => h))
  have TQ := Lib.hid (TQ.out.keeps KS.out)
  have T1 := Lib.hid (T1.out.keeps KS.out)
  have T2 := Lib.hid (T2.out.keeps KS.out)
  have T3 := Lib.hid (T3.out.keeps KS.out)
  have T4 := Lib.hid (T4.out.keeps KS.out)
  have T5 := Lib.hid (T5.out.keeps KS.out)
  have T6 := Lib.hid (T6.out.keeps KS.out)
  have TT := Lib.hid (TT.out.keeps KS.out)
  have T8 := Lib.hid (T8.out.keeps KS.out)
  have KK := Lib.hid (KK.out.trans KS.out (fun _ _ h => h))
  have T9 := Lib.hid hT
  clear hT K1 KS
  go_wp2_with fail
  have hTT : HasTy (w9.alloc (.cells #[(.iface 71 (.pointer (some ⟨g8, 0, none⟩))), (.iface 73 (.pointer (some ⟨g9, 0, none⟩)))] 77)) (.iface 70 (.slice (some ⟨w9.heap.size, 0, none⟩) 2 2)) (ctS ⟨#[84, 117, 112, 108, 101]⟩ [⟨#[97, 32, 83, 116, 114, 105, 110, 103]⟩, ⟨#[98, 32, 85, 73, 110, 116, 51, 50]⟩]) :=
    hasTuple (cols := [((.iface 71 (.pointer (some ⟨g8, 0, none⟩))), ⟨#[97, 32, 83, 116, 114, 105, 110, 103]⟩), ((.iface 73 (.pointer (some ⟨g9, 0, none⟩))), ⟨#[98, 32, 85, 73, 110, 116, 51, 50]⟩)]) rfl (Rd.whole (Whole.new w9 77 #[(.iface 71 (.pointer (some ⟨g8, 0, none⟩))), (.iface 73 (.pointer (some ⟨g9, 0, none⟩)))]) rfl rfl) (fun c hc => by
      simp only [List.mem_cons, List.not_mem_nil, or_false] at hc
      rcases hc with rfl | rfl
      · exact T8.out.keeps (kal _ _)
      · exact T9.out.keeps (kal _ _)) (by omega) (by omega) (fun c hc => by
      simp only [List.mem_cons, List.not_mem_nil, or_false] at hc
      rcases hc with rfl | rfl <;> (dsimp only; decide))
  have TV := Lib.hid (hTT.keeps (kal _ (.cells #[(.iface 51 (.pointer (some ⟨g1, 0, none⟩))), (.iface 53 (.pointer (some ⟨g2, 0, none⟩))), (.iface 55 (.pointer (some ⟨g3, 0, none⟩))), (.iface 61 (.pointer (some ⟨g4, 0, none⟩))), (.iface 63 (.pointer (some ⟨g5, 0, none⟩))), (.iface 65 (.pointer (some ⟨g6, 0, none⟩))), (.iface 70 (.slice (some ⟨w7.heap.size, 0, none⟩) 3 3)), (.iface 70 (.slice (some ⟨w9.heap.size, 0, none⟩) 2 2)), (.iface 45 (.pointer (some ⟨gq, 0, none⟩)))] 77)))
  have hRd := Rd.whole (n := 9) (Whole.new (w9.alloc (.cells #[(.iface 71 (.pointer (some ⟨g8, 0, none⟩))), (.iface 73 (.pointer (some ⟨g9, 0, none⟩)))] 77)) 77 #[(.iface 51 (.pointer (some ⟨g1, 0, none⟩))), (.iface 53 (.pointer (some ⟨g2, 0, none⟩))), (.iface 55 (.pointer (some ⟨g3, 0, none⟩))), (.iface 61 (.pointer (some ⟨g4, 0, none⟩))), (.iface 63 (.pointer (some ⟨g5, 0, none⟩))), (.iface 65 (.pointer (some ⟨g6, 0, none⟩))), (.iface 70 (.slice (some ⟨w7.heap.size, 0, none⟩) 3 3)), (.iface 70 (.slice (some ⟨w9.heap.size, 0, none⟩) 2 2)), (.iface 45 (.pointer (some ⟨gq, 0, none⟩)))]) rfl rfl
  rw [World.size_alloc] at hRd
  have KW := Lib.hid ((kal w9 (.cells #[(.iface 71 (.pointer (some ⟨g8, 0, none⟩))), (.iface 73 (.pointer (some ⟨g9, 0, none⟩)))] 77)).trans (kal (w9.alloc (.cells #[(.iface 71 (.pointer (some ⟨g8, 0, none⟩))), (.iface 73 (.pointer (some ⟨g9, 0, none⟩)))] 77)) (.cells #[(.iface 51 (.pointer (some ⟨g1, 0, none⟩))), (.iface 53 (.pointer (some ⟨g2, 0, none⟩))), (.iface 55 (.pointer (some ⟨g3, 0, none⟩))), (.iface 61 (.pointer (some ⟨g4, 0, none⟩))), (.iface 63 (.pointer (some ⟨g5, 0, none⟩))), (.iface 65 (.pointer (some ⟨g6, 0, none⟩))), (.iface 70 (.slice (some ⟨w7.heap.size, 0, none⟩) 3 3)), (.iface 70 (.slice (some ⟨w9.heap.size, 0, none⟩) 2 2)), (.iface 45 (.pointer (some ⟨gq, 0, none⟩)))] 77)) (fun _ _ h => h))
  clear hTT T8 T9
  have TQ := Lib.hid (TQ.out.keeps KW.out)
  have T1 := Lib.hid (T1.out.keeps KW.out)
  have T2 := Lib.hid (T2.out.keeps KW.out)
  have T3 := Lib.hid (T3.out.keeps KW.out)
  have T4 := Lib.hid (T4.out.keeps KW.out)
  have T5 := Lib.hid (T5.out.keeps KW.out)
  have T6 := Lib.hid (T6.out.keeps KW.out)
  have TT := Lib.hid (TT.out.keeps KW.out)
  have KK := Lib.hid (KK.out.trans KW.out (fun _ _ h => h))
  have HT := Lib.hid (tyTurned _ _ 9 9 [((.iface 51 (.pointer (some ⟨g1, 0, none⟩))), ctS ⟨#[65, 114, 114, 97, 121]⟩ [⟨#[83, 116, 114, 105, 110, 103]⟩]), ((.iface 53 (.pointer (some ⟨g2, 0, none⟩))), ctS ⟨#[65, 114, 114, 97, 121]⟩ [ctS ⟨#[65, 114, 114, 97, 121]⟩ [⟨#[83, 116, 114, 105, 110, 103]⟩]]), ((.iface 55 (.pointer (some ⟨g3, 0, none⟩))), ctS ⟨#[78, 117, 108, 108, 97, 98, 108, 101]⟩ [⟨#[83, 116, 114, 105, 110, 103]⟩]), ((.iface 61 (.pointer (some ⟨g4, 0, none⟩))), ctS ⟨#[65, 114, 114, 97, 121]⟩ [ctS ⟨#[78, 117, 108, 108, 97, 98, 108, 101]⟩ [⟨#[83, 116, 114, 105, 110, 103]⟩]]), ((.iface 63 (.pointer (some ⟨g5, 0, none⟩))), ctS ⟨#[76, 111, 119, 67, 97, 114, 100, 105, 110, 97, 108, 105, 116, 121]⟩ [⟨#[83, 116, 114, 105, 110, 103]⟩]), ((.iface 65 (.pointer (some ⟨g6, 0, none⟩))), ctS ⟨#[77, 97, 112]⟩ [⟨#[83, 116, 114, 105, 110, 103]⟩, ⟨#[83, 116, 114, 105, 110, 103]⟩]), ((.iface 70 (.slice (some ⟨w7.heap.size, 0, none⟩) 3 3)), ctS ⟨#[84, 117, 112, 108, 101]⟩ [⟨#[83, 116, 114, 105, 110, 103]⟩, ⟨#[85, 73, 110, 116, 51, 50]⟩, ctS ⟨#[65, 114, 114, 97, 121]⟩ [⟨#[83, 116, 114, 105, 110, 103]⟩]]), ((.iface 70 (.slice (some ⟨w9.heap.size, 0, none⟩) 2 2)), ctS ⟨#[84, 117, 112, 108, 101]⟩ [⟨#[97, 32, 83, 116, 114, 105, 110, 103]⟩, ⟨#[98, 32, 85, 73, 110, 116, 51, 50]⟩]), ((.iface 45 (.pointer (some ⟨gq, 0, none⟩))), ⟨#[81, 66, 105, 116, 40, 70, 108, 111, 97, 116, 51, 50, 44, 32, 51, 41]⟩)] rfl hRd (fun c hc => by
    simp only [List.mem_cons, List.not_mem_nil, or_false] at hc
    rcases hc with rfl | rfl | rfl | rfl | rfl | rfl | rfl | rfl | rfl
    · exact T1.out
    · exact T2.out
    · exact T3.out
    · exact T4.out
    · exact T5.out
    · exact T6.out
    · exact TT.out
    · exact TV.out
    · exact TQ.out) (by omega) (fun c hc => by
    simp only [List.mem_cons, List.not_mem_nil, or_false] at hc
    rcases hc with rfl | rfl | rfl | rfl | rfl | rfl | rfl | rfl | rfl <;> (dsimp only; decide)))
  clear hRd
  refine HT.out.mono ?_
  rintro e wf ⟨A, c, rfl, hown, Kf⟩
  go_wp2_with fail
  go_ret
  exact ⟨A, c, rfl, own_low hown KK.out.size, KK.out.trans Kf (fun _ _ h => h)⟩
end Go.Proofs.YtpbnhhfpbadhjaaGreat
