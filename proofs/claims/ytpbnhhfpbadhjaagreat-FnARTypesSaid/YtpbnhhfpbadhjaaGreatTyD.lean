/- The columns of FnARTypes made: of strings, of rows, nullable, of keys, with a name. Conditions: none but those that each theorem names. -/
import Derived.Test.YtpbnhhfpbadhjaaGreatTyC
namespace Go.Proofs.YtpbnhhfpbadhjaaGreat
open Go.RowKit Go.Lib
set_option linter.unusedVariables false
/-- A pointer to a new column that answers s. -/
abbrev NewRes (w : World) (T : TypeId) (s : ByteArray) (e : Ending) (w' : World) : Prop := ∃ g, e = .returned (.pointer (some ⟨g, 0, none⟩)) ∧ Keeps (fun _ => False) w w' ∧ HasTy w' (.iface T (.pointer (some ⟨g, 0, none⟩))) s
abbrev kal (w : World) (o : Obj) : Keeps (fun _ => False) w (w.alloc o) := (Keeps.refl _ _).alloc o
theorem strNewTy (w : World) : HasTy (w.alloc (.cells #[.slice none 0 0, .slice none 0 0] 59)) (.iface 56 (.pointer (some ⟨w.heap.size, 0, none⟩))) ⟨#[83, 116, 114, 105, 110, 103]⟩ := hasStr (Whole.new w 59 #[.slice none 0 0, .slice none 0 0])
theorem lenA : (ctS ⟨#[65, 114, 114, 97, 121]⟩ [⟨#[83, 116, 114, 105, 110, 103]⟩]).size ≤ 100000 := by decide
set_option maxRecDepth 100000 in
set_option maxHeartbeats 1000000 in
theorem newStrs (w : World) : Calls Tryz.prog 17 #[] w fun e w' => NewRes w 51 (ctS ⟨#[65, 114, 114, 97, 121]⟩ [⟨#[83, 116, 114, 105, 110, 103]⟩]) e w' := by
  have H := Lib.hid (strNewTy w)
  have K := Lib.hid (kal w (.cells #[.slice none 0 0, .slice none 0 0] 59))
  go_enter Tryz.func17, Tryz.ntmps17
  go_wp2_with (first | (go_at_call 37; go_in))
  go_ret
  refine ⟨w.heap.size + 1, by simp, K.out.alloc _, ?_⟩
  have hW := Whole.new (w.alloc (.cells #[.slice none 0 0, .slice none 0 0] 59)) 126 #[.slice none 0 0, .iface 56 (.pointer (some ⟨w.heap.size, 0, none⟩))]
  simp only [World.size_alloc] at hW
  exact hasArr (by decide) hW (H.out.keeps (kal _ _))
set_option maxRecDepth 100000 in
set_option maxHeartbeats 1000000 in
theorem newDeep (w : World) : Calls Tryz.prog 18 #[] w fun e w' => NewRes w 53 (ctS ⟨#[65, 114, 114, 97, 121]⟩ [ctS ⟨#[65, 114, 114, 97, 121]⟩ [⟨#[83, 116, 114, 105, 110, 103]⟩]]) e w' := by
  have H := Lib.hid (newStrs w)
  go_enter Tryz.func18, Tryz.ntmps18
  go_wp2_with fail
  refine H.out.mono ?_
  rintro e w1 ⟨g, rfl, K1, hT⟩
  have HT := Lib.hid hT
  have HK := Lib.hid K1
  clear hT K1
  go_wp2_with (first | (go_at_call 38; go_in))
  go_ret
  refine ⟨_, rfl, HK.out.alloc _, ?_⟩
  exact hasArr2 lenA (Whole.new w1 228 #[.slice none 0 0, .iface 51 (.pointer (some ⟨g, 0, none⟩))]) (HT.out.keeps (kal _ _))
theorem lenN : (ctS ⟨#[78, 117, 108, 108, 97, 98, 108, 101]⟩ [⟨#[83, 116, 114, 105, 110, 103]⟩]).size ≤ 100000 := by decide
set_option maxRecDepth 100000 in
set_option maxHeartbeats 1000000 in
theorem newNul (w : World) (g : Nat) (hT : HasTy w (.iface 56 (.pointer (some ⟨g, 0, none⟩))) ⟨#[83, 116, 114, 105, 110, 103]⟩) : Calls Tryz.prog 19 #[.pointer (some ⟨g, 0, none⟩)] w fun e w' => NewRes w 55 (ctS ⟨#[78, 117, 108, 108, 97, 98, 108, 101]⟩ [⟨#[83, 116, 114, 105, 110, 103]⟩]) e w' := by
  have HT := Lib.hid hT
  clear hT
  go_enter Tryz.func19, Tryz.ntmps19
  go_wp2_with fail
  go_ret
  refine ⟨_, rfl, kal _ _, ?_⟩
  exact hasNul (by decide) (Whole.new w 103 #[.slice none 0 0, .iface 56 (.pointer (some ⟨g, 0, none⟩))]) (HT.out.keeps (kal _ _))
set_option maxRecDepth 100000 in
set_option maxHeartbeats 1000000 in
theorem newLc (w : World) (g : Nat) (hT : HasTy w (.iface 56 (.pointer (some ⟨g, 0, none⟩))) ⟨#[83, 116, 114, 105, 110, 103]⟩) : Calls Tryz.prog 21 #[.pointer (some ⟨g, 0, none⟩)] w fun e w' => NewRes w 63 (ctS ⟨#[76, 111, 119, 67, 97, 114, 100, 105, 110, 97, 108, 105, 116, 121]⟩ [⟨#[83, 116, 114, 105, 110, 103]⟩]) e w' := by
  have HT := Lib.hid hT
  clear hT
  go_enter Tryz.func21, Tryz.ntmps21
  go_wp2_with fail
  go_ret
  refine ⟨_, rfl, kal _ _, ?_⟩
  exact hasLc (by decide) (Whole.new w 112 #[.slice none 0 0, .iface 56 (.pointer (some ⟨g, 0, none⟩)), .int .u8 0, .slice none 0 0, .slice none 0 0, .slice none 0 0, .slice none 0 0, .map none, .slice none 0 0]) (HT.out.keeps (kal _ _))
set_option maxRecDepth 100000 in
set_option maxHeartbeats 1000000 in
theorem newMaybes (w : World) : Calls Tryz.prog 20 #[] w fun e w' => NewRes w 61 (ctS ⟨#[65, 114, 114, 97, 121]⟩ [ctS ⟨#[78, 117, 108, 108, 97, 98, 108, 101]⟩ [⟨#[83, 116, 114, 105, 110, 103]⟩]]) e w' := by
  have H := Lib.hid (newNul _ _ (strNewTy w))
  have K := Lib.hid (kal w (.cells #[.slice none 0 0, .slice none 0 0] 59))
  go_enter Tryz.func20, Tryz.ntmps20
  go_wp2_with fail
  refine H.out.mono ?_
  rintro e w1 ⟨g, rfl, K1, hT⟩
  have HT := Lib.hid hT
  have HK := Lib.hid (K.out.trans K1 (fun _ _ h => h))
  clear hT K1
  go_wp2_with (first | (go_at_call 39; go_in))
  go_ret
  refine ⟨_, rfl, HK.out.alloc _, ?_⟩
  exact hasArrN lenN (Whole.new w1 232 #[.slice none 0 0, .iface 55 (.pointer (some ⟨g, 0, none⟩))]) (HT.out.keeps (kal _ _))
set_option maxRecDepth 100000 in
set_option maxHeartbeats 1000000 in
theorem newMaps (w : World) : Calls Tryz.prog 22 #[] w fun e w' => NewRes w 65 (ctS ⟨#[77, 97, 112]⟩ [⟨#[83, 116, 114, 105, 110, 103]⟩, ⟨#[83, 116, 114, 105, 110, 103]⟩]) e w' := by
  have K := Lib.hid ((kal w (.cells #[.slice none 0 0, .slice none 0 0] 59)).trans (kal _ (.cells #[.slice none 0 0, .slice none 0 0] 59)) (fun _ _ h => h))
  have HA := Lib.hid (((Whole.new w 59 #[.slice none 0 0, .slice none 0 0]).alloc (.cells #[.slice none 0 0, .slice none 0 0] 59)).alloc (.cells #[.slice none 0 0, .iface 56 (.pointer (some ⟨w.heap.size, 0, none⟩)), .iface 56 (.pointer (some ⟨w.heap.size + 1, 0, none⟩))] 234))
  have hB := (Whole.new (w.alloc (.cells #[.slice none 0 0, .slice none 0 0] 59)) 59 #[.slice none 0 0, .slice none 0 0]).alloc (.cells #[.slice none 0 0, .iface 56 (.pointer (some ⟨w.heap.size, 0, none⟩)), .iface 56 (.pointer (some ⟨w.heap.size + 1, 0, none⟩))] 234)
  have hC := Whole.new ((w.alloc (.cells #[.slice none 0 0, .slice none 0 0] 59)).alloc (.cells #[.slice none 0 0, .slice none 0 0] 59)) 234 #[.slice none 0 0, .iface 56 (.pointer (some ⟨w.heap.size, 0, none⟩)), .iface 56 (.pointer (some ⟨w.heap.size + 1, 0, none⟩))]
  simp only [World.size_alloc] at hB hC
  have HB := Lib.hid hB
  have HC := Lib.hid hC
  clear hB hC
  go_enter Tryz.func22, Tryz.ntmps22
  go_wp2_with (first | (go_at_call 40; go_in))
  go_ret
  refine ⟨w.heap.size + 2, by simp, K.out.alloc _, ?_⟩
  exact hasMap HC.out HA.out HB.out
set_option maxRecDepth 100000 in
set_option maxHeartbeats 1000000 in
theorem newNmS (w : World) (g : Nat) (p q : Value) (hk : Whole w g 59 #[p, q]) : Calls Tryz.prog 23 #[.iface 56 (.pointer (some ⟨g, 0, none⟩)), .string ⟨#[97]⟩] w fun e w' => NewRes w 71 ⟨#[97, 32, 83, 116, 114, 105, 110, 103]⟩ e w' := by
  have HK := Lib.hid hk
  clear hk
  go_enter Tryz.func23, Tryz.ntmps23
  go_wp2_with fail
  go_ret
  refine ⟨_, rfl, kal _ _, ?_⟩
  exact hasNmS (Whole.new w 115 #[.iface 56 (.pointer (some ⟨g, 0, none⟩)), .string ⟨#[97]⟩]) (HK.out.alloc _)
set_option maxRecDepth 100000 in
set_option maxHeartbeats 1000000 in
theorem newNmU (w : World) (g : Nat) (p : Value) (hk : Whole w g 68 #[p]) : Calls Tryz.prog 24 #[.iface 67 (.pointer (some ⟨g, 0, none⟩)), .string ⟨#[98]⟩] w fun e w' => NewRes w 73 ⟨#[98, 32, 85, 73, 110, 116, 51, 50]⟩ e w' := by
  have HK := Lib.hid hk
  clear hk
  go_enter Tryz.func24, Tryz.ntmps24
  go_wp2_with fail
  go_ret
  refine ⟨_, rfl, kal _ _, ?_⟩
  exact hasNmU (Whole.new w 119 #[.iface 67 (.pointer (some ⟨g, 0, none⟩)), .string ⟨#[98]⟩]) (HK.out.alloc _)
end Go.Proofs.YtpbnhhfpbadhjaaGreat
