/- A column of maps of strings: a row of pairs appended. Conditions: sizes far below the machine's. -/
import Derived.Test.YtkgjchfbbpabpaaGreatMp
namespace Go.Proofs.YtkgjchfbbpabpaaGreat
open Go.RowKit Go.Lib
set_option linter.unusedVariables false
theorem infoMCM : (Tryz.prog.info? 84).map (fun i => (i.methods.find? (·.name == "Append")).map (fun m => (m.path.toList.length, m.func))) = some (some (0, some (160, true))) := by kernel_rfl
theorem mColApM (w : World) (g : Nat) (fuel : Nat) : (method (fuel + 1) 84 (.pointer (some ⟨g, 0, none⟩)) "Append").run Tryz.prog w = .ok (160, .pointer (some ⟨g, 0, none⟩)) w := by
  obtain ⟨i, m, h1, h2, h3, h4⟩ := method_row infoMCM
  exact method_ptr h1 h2 h3 h4 Tryz.underlying84
def U64App (w : World) (base gm : Nat) (t : TypeId) (cs : Array Value) (O : Option Addr) (nO : Nat) (OV : List Value) (v : Value) (e : Ending) (w' : World) : Prop := ∃ O' ko', e = .returned (.tuple #[]) ∧ Whole w' gm t (cs.setIfInBounds 0 (.slice O' (nO + 1) ko')) ∧ w'.ownsRow base 47 1 (.slice O' (nO + 1) ko') (nO + 1) (OV ++ [v]) ∧ Keeps (fun k => k = gm ∨ ob O = some k) w w' ∧ (ob O' = ob O ∨ ∀ k, ob O' = some k → w.heap.size ≤ k)
set_option maxRecDepth 100000 in
set_option maxHeartbeats 1000000 in
theorem u64Append (w : World) (base gm : Nat) (t : TypeId) (cs : Array Value) (O : Option Addr) (ko nO : Nat) (OV : List Value) (x : Nat) (hW : Whole w gm t cs) (h0 : cs[0]? = some (.slice O nO ko)) (ho : w.ownsRow base 47 1 (.slice O nO ko) nO OV) (ht : t ≠ 47) (hb : base ≤ gm) (hn : nO ≤ 100000) :
    Calls Tryz.prog 59 #[.pointer (some ⟨gm, 0, none⟩), .int .u64 (x : Int)] w fun e w' => U64App w base gm t cs O nO OV (.int .u64 (x : Int)) e w' := by
  obtain ⟨i0, hi0, hz0, hz1, hz2⟩ := info_parts infoU64E
  have hlt := hW.lt
  have c0 : w.cell? ⟨gm, 0, none⟩ = some (.slice O nO ko) := by rw [hW.cell 0]; exact h0
  have nO1 : ob O ≠ some gm := by have := own_far ho hW (Ne.symm ht); rwa [ownBlock_slice] at this
  have Ka := (Keeps.refl (fun _ => False) w).alloc (.cells #[.int .u64 (x : Int)] 47)
  have hWa := hW.keeps Ka (fun h => h)
  have hoa := own_keeps ho Ka (fun _ _ h => h)
  have hba : base ≤ (World.heap (w.alloc (.cells #[.int .u64 (x : Int)] 47))).size := by have := Ka.size; omega
  have HWA := Lib.hid hWa
  have HW := Lib.hid hW
  clear hWa h0 hW
  go_enter Tryz.func59, Tryz.ntmps59
  go_wp2_with (at_builtin
               refine wpList_append_rd _ rfl (.tmp 7) (.tmp 9) _ rfl base 47 i0 _ 1 8 Tryz.underlying186 hi0 hz0 hz1 hz2 rfl Nat.one_pos O ko nO _ rfl hoa (some ⟨w.heap.size, 0, none⟩) 1 1 [.int .u64 (x : Int)] rfl (rd_one w 47 _) (one_val _ rfl) (by simp only [maxLen]; omega) (by omega) hba ?_
               intro O3 k3 w3 o3 hg3 hat3
               have hb3 := HWA.out.grown hg3 (Ne.symm nO1)
               have e30 : w3.cell? ⟨gm, 0, none⟩ = some (.slice O nO ko) := by rw [hb3.cell 0, ← HW.out.cell 0]; exact c0
               have f30 : w3.frozen? ⟨gm, 0, none⟩ = false := hb3.frozen 0
               have hl3 := hb3.lt)
  go_end0
  have K3 : Keeps (fun i => ob O = some i) w w3 := (Ka.mono (S' := fun i => ob O = some i) (fun _ _ h => h.elim)).grown hg3 (fun k hk => .inl hk)
  have nO3 : ob O3 ≠ some gm := by have := own_far o3 hb3 (Ne.symm ht); rwa [ownBlock_slice] at this
  have K4 := (Keeps.refl (fun i => i = gm) w3).setCell (p := ⟨gm, 0, none⟩) (.inl rfl) (.slice O3 (nO + 1) k3)
  refine ⟨O3, k3, rfl, hb3.put 0 _, own_keeps o3 K4 (fun k hk h => by rw [ownBlock_slice] at hk; exact nO3 (h ▸ hk)), (K3.mono (S' := fun k => k = gm ∨ ob O = some k) (fun _ _ h => .inr h)).trans K4 (fun _ _ h => .inl h), ?_⟩
  rcases hat3 with h | h
  · exact .inl h
  · refine .inr fun k hk => ?_
    rw [h] at hk
    injection hk with hk
    have := Ka.size
    omega
end Go.Proofs.YtkgjchfbbpabpaaGreat
