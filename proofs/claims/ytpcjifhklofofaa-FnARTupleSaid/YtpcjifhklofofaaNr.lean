/- One row of a column of numbers. No conditions but those that each theorem names. -/
import Derived.Test.YtpcjifhklofofaaNm
import Derived.Test.YtpcjifhklofofaaAe
namespace Go.Proofs.Ytpcjifhklofofaa
open Go.RowKit Go.Lib
set_option linter.unusedVariables false
theorem iNmRow : (Try.prog.info? 58).map (fun i => (i.methods.find? (·.name == "Row")).map (fun m => (m.path.toList.length, m.func))) = some (some (0, some (32, false))) := by kernel_rfl
theorem mNmRow {w : World} {gs : Nat} {x : Value} (hW : Whole w gs 59 #[x]) (fuel : Nat) : (method (fuel + 1) 58 (.pointer (some ⟨gs, 0, none⟩)) "Row").run Try.prog w = .ok (32, x) w := by
  obtain ⟨i, m, h1, h2, h3, h4⟩ := method_row iNmRow
  exact method_val h1 h2 h3 h4 Try.underlying58 (by have h0 : w.cell? ⟨gs, 0, none⟩ = some x := hW.cell 0; go_simp)
set_option maxRecDepth 10000 in
theorem numRow (w : World) (A : Option Addr) (f c i x : Nat) (Q : List Nat) (hR : Rd w 1 A f (nv Q)) (hi : i < f) (hx : Q[i]? = some x) :
    Calls Try.prog 32 #[.slice A f c, .int .i64 (i : Int)] w fun e w' => e = .returned (.int .u32 (x : Int)) ∧ w = w' := by
  obtain ⟨ad, u, rfl, hb, hu, hcell⟩ := hR.at' hi
  have hu' : u = .int .u32 (x : Int) := by
    rw [nv, List.getElem?_map, hx] at hu
    exact (Option.some.inj hu).symm
  subst hu'
  clear hu hR hx
  go_enter Try.func32, Try.ntmps32
  go_wp2_with fail
  go_ret
  exact ⟨rfl, rfl⟩
end Go.Proofs.Ytpcjifhklofofaa
