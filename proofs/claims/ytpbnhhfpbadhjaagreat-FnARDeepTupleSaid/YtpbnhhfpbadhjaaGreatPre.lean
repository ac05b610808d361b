/- A column of arrays of strings made ready: nothing is to be done. Encoded into a new buffer. -/
import Derived.Test.YtpbnhhfpbadhjaaGreatAe
import Derived.Stop.Asserts
namespace Go.Proofs.YtpbnhhfpbadhjaaGreat
open Go.RowKit Go.Lib
set_option linter.unusedVariables false
theorem infoMP : (Tryz.prog.info? 51).map (fun i => (i.methods.find? (·.name == "Prepare")).map (fun m => (m.path.toList.length, m.func))) = some (some (0, some (107, true))) := by kernel_rfl
theorem method_ptr {P : Program} {fuel : Nat} {t elem : TypeId} {i : TypeInfo} {m : _} {name : String} {f : FuncId} {a : Addr} {w : World} (hi : P.info? t = some i) (hm : i.methods.find? (·.name == name) = some m) (hp : m.path = #[]) (hf : m.func = some (f, true))
    (hu : P.underlying t = some (.pointer elem)) : (method (fuel + 1) t (.pointer (some a)) name).run P w = .ok (f, .pointer (some a)) w := by
  unfold method
  simp only [Sem.run_bind, run_typeInfo w hi, Result.andThen_ok, hm, hp, hf, follow, Sem.run_pure, receiverAt, run_underlying hu, Place.get, Array.isEmpty_empty, if_true, List.toList_toArray]
theorem mPrep (w : World) (ga : Nat) (fuel : Nat) : (method (fuel + 1) 51 (.pointer (some ⟨ga, 0, none⟩)) "Prepare").run Tryz.prog w = .ok (107, .pointer (some ⟨ga, 0, none⟩)) w := by
  obtain ⟨i, m, h1, h2, h3, h4⟩ := method_row infoMP
  exact method_ptr h1 h2 h3 h4 Tryz.underlying51
theorem noPrep (v : Value) (xT : TypeId) (w : World) : (Instr.typeAssert (.iface 56 v) xT 240 true).run Tryz.prog w = .ok (.tuple #[.nilIface, .bool false]) w :=
  run_typeAssert_lacksB Tryz.underlying240 (by kernel_rfl) (by kernel_rfl) v xT w
theorem hasPrep (v : Value) (xT : TypeId) (w : World) : (Instr.typeAssert (.iface 51 v) xT 240 true).run Tryz.prog w = .ok (.tuple #[.iface 51 v, .bool true]) w :=
  run_typeAssert_hasB Tryz.underlying240 (by kernel_rfl) v xT w
set_option maxRecDepth 100000 in
set_option maxHeartbeats 2000000 in
theorem arrPrep (w : World) (ga gs : Nat) (x : Value) (hb : Whole w ga 126 #[x, .iface 56 (.pointer (some ⟨gs, 0, none⟩))]) :
    Calls Tryz.prog 107 #[.pointer (some ⟨ga, 0, none⟩)] w fun e w' => e = .returned .nilIface ∧ Keeps (fun _ => False) w w' := by
  have hlt := hb.lt
  have hno := noPrep
  have c1 : w.cell? ⟨ga, 1, none⟩ = some (.iface 56 (.pointer (some ⟨gs, 0, none⟩))) := hb.cell 1
  go_enter Tryz.func107, Tryz.ntmps107
  go_wp2_with fail
  go_ret
  exact ⟨rfl, Keeps.refl _ _⟩
set_option maxRecDepth 100000 in
set_option maxHeartbeats 2000000 in
theorem arrPrepared (w : World) (ga gs : Nat) (x : Value) (hb : Whole w ga 126 #[x, .iface 56 (.pointer (some ⟨gs, 0, none⟩))]) :
    Calls Tryz.prog 44 #[.iface 51 (.pointer (some ⟨ga, 0, none⟩))] w fun e w' => e = .returned (.bool true) ∧ Keeps (fun _ => False) w w' := by
  have HP := Lib.hid (arrPrep w ga gs x hb)
  have hyes := hasPrep
  have hme : (method 469 51 (.pointer (some ⟨ga, 0, none⟩)) "Prepare").run Tryz.prog w = .ok (107, .pointer (some ⟨ga, 0, none⟩)) w := mPrep w ga _
  clear hb
  go_enter Tryz.func44, Tryz.ntmps44
  go_wp2_with fail
  refine HP.out.mono ?_
  rintro e w2 ⟨rfl, K⟩
  have HK := Lib.hid K
  clear K
  go_wp2_with fail
  go_ret
  exact ⟨rfl, HK.out⟩
end Go.Proofs.YtpbnhhfpbadhjaaGreat
