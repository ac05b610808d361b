/- A new column of arrays of strings. Conditions: none. -/
import Derived.Test.YtpbnhhfpbadhjaaGreatArr
namespace Go.Proofs.YtpbnhhfpbadhjaaGreat
open Go.RowKit Go.Lib
set_option linter.unusedVariables false
def StrsNew (w : World) (e : Ending) (w' : World) : Prop := ∃ ga gs, e = .returned (.pointer (some ⟨ga, 0, none⟩)) ∧ Keeps (fun _ => False) w w' ∧ ArrAt w' w.heap.size ga gs none 0 none 0 none 0 []
set_option maxRecDepth 100000 in
theorem colArray (w : World) (g : Nat) :
    Calls Tryz.prog 37 #[.pointer (some ⟨g, 0, none⟩)] w fun e w' => e = .returned (.pointer (some ⟨w.heap.size, 0, none⟩)) ∧ w' = w.alloc (.cells #[.slice none 0 0, .iface 56 (.pointer (some ⟨g, 0, none⟩))] 126) := by
  go_enter Tryz.func37, Tryz.ntmps37
  go_wp2_with fail
  go_ret
  exact ⟨rfl, rfl⟩
set_option maxRecDepth 100000 in
theorem strsNew (w : World) :
    Calls Tryz.prog 17 #[] w fun e w' => StrsNew w e w' := by
  have hc := colNew w (Nat.le_refl _)
  have K0 := (Keeps.refl (fun _ => False) w).alloc (.cells #[.slice none 0 0, .slice none 0 0] 59)
  have HA := Lib.hid (fun w g => colArray w g)
  go_enter Tryz.func17, Tryz.ntmps17
  go_wp2_with fail
  refine (HA.out _ w.heap.size).mono ?_
  rintro e w1 ⟨rfl, rfl⟩
  go_wp2_with fail
  go_ret
  have K1 := (Keeps.refl (fun _ => False) (w.alloc (.cells #[.slice none 0 0, .slice none 0 0] 59))).alloc (.cells #[.slice none 0 0, .iface 56 (.pointer (some ⟨w.heap.size, 0, none⟩))] 126)
  refine ⟨w.heap.size + 1, w.heap.size, by simp, K0.trans K1 (fun _ _ h => h), ⟨?_, ⟨rfl, .inl ⟨rfl, rfl⟩⟩, hc.new K1, by omega⟩⟩
  have h := Whole.new (w.alloc (.cells #[.slice none 0 0, .slice none 0 0] 59)) 126 #[.slice none 0 0, .iface 56 (.pointer (some ⟨w.heap.size, 0, none⟩))]
  simp only [World.size_alloc] at h
  exact h
end Go.Proofs.YtpbnhhfpbadhjaaGreat
