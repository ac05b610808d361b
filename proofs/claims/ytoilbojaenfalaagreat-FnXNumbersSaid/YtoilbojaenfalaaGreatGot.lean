/- got: a message is read by a function that is handed in; how many bytes are left. Conditions: that function's own contract. -/
import Derived.Test.YtoilbojaenfalaaGreatRd3
import Derived.Defers
import Derived.Recover
namespace Go.Proofs.YtoilbojaenfalaaGreat
open Go.RowKit

theorem caught_idle (p : Addr) (w : World) :
    CallsD Tryz.prog 42 #[.pointer (some p)] .returning w fun e u' w' => e = .returned (.tuple #[]) ∧ u' = .returning ∧ w = w' := by
  refine callsD_of_wpS Tryz.func42 rfl fun c₀ cs hu => ?_
  apply wpS_seq
  apply wpS_region
  simp [wpOpsS, go_sem, recoverD, hu, Tryz.ntmps42, Exit.thenS]
  refine wpS_cond (t := false) (by simp [Act.eval, Array.replicate]) ?_
  simp only [Bool.false_eq_true, if_false]
  refine wpS_of_wp (wp_skip ?_)
  cases c₀
  simp_all [bodyPostS, results, Tryz.results42]

theorem newReader (w : World) (A : Option Addr) (c : Nat) (d : List UInt8) (hR : Rd w 1 A d.length (Lib.byteCells d)) (hc : d.length ≤ c) (hA : ∀ i, ob A = some i → i < w.heap.size) :
    Calls Tryz.prog 43 #[.slice A d.length c] w fun e w' => e = .returned (.pointer (some ⟨w.heap.size + 1, 0, none⟩)) ∧
      RdrOn w' w.heap.size (w.heap.size + 1) w.heap.size (ob A) none d ∧ Keeps (fun _ => False) w w' ∧ w'.heap.size = w.heap.size + 2 := by
  go_enter Tryz.func43, Tryz.ntmps43
  go_wp2
  go_ret
  have h1 := Whole.new w 152 #[.slice none 0 0]
  have h2 := Whole.new (w.alloc (.cells #[.slice none 0 0] 152)) 271 #[.slice A d.length c, .pointer (some ⟨w.heap.size, 0, none⟩)]
  rw [World.size_alloc] at h2
  refine ⟨rfl, ⟨A, c, none, 0, 0, [], ⟨h2, h1.alloc _, ⟨by simp, .inl ⟨rfl, rfl⟩⟩, (hR.alloc _).alloc _, hc, by omega, by omega, fun i hi => ?_⟩, .inl rfl, rfl⟩, ((Keeps.refl _ _).alloc _).alloc _, by simp⟩
  have := hA i hi
  exact ⟨by omega, by omega, by simp [ob], by simp; omega⟩

end Go.Proofs.YtoilbojaenfalaaGreat
