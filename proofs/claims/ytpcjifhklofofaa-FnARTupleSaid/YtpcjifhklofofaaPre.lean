/- A column of arrays of strings made ready: nothing is to be done. Encoded into a new buffer. -/
import Derived.Test.YtpcjifhklofofaaAe
import Derived.Stop.Asserts
namespace Go.Proofs.Ytpcjifhklofofaa
open Go.RowKit Go.Lib
set_option linter.unusedVariables false
theorem infoMP : (Try.prog.info? 60).map (fun i => (i.methods.find? (·.name == "Prepare")).map (fun m => (m.path.toList.length, m.func))) = some (some (0, some (85, true))) := by kernel_rfl
theorem method_ptr {P : Program} {fuel : Nat} {t elem : TypeId} {i : TypeInfo} {m : _} {name : String} {f : FuncId} {a : Addr} {w : World} (hi : P.info? t = some i) (hm : i.methods.find? (·.name == name) = some m) (hp : m.path = #[]) (hf : m.func = some (f, true))
    (hu : P.underlying t = some (.pointer elem)) : (method (fuel + 1) t (.pointer (some a)) name).run P w = .ok (f, .pointer (some a)) w := by
  unfold method
  simp only [Sem.run_bind, run_typeInfo w hi, Result.andThen_ok, hm, hp, hf, follow, Sem.run_pure, receiverAt, run_underlying hu, Place.get, Array.isEmpty_empty, if_true, List.toList_toArray]
theorem mPrep (w : World) (ga : Nat) (fuel : Nat) : (method (fuel + 1) 60 (.pointer (some ⟨ga, 0, none⟩)) "Prepare").run Try.prog w = .ok (85, .pointer (some ⟨ga, 0, none⟩)) w := by
  obtain ⟨i, m, h1, h2, h3, h4⟩ := method_row infoMP
  exact method_ptr h1 h2 h3 h4 Try.underlying60
theorem noPrep (v : Value) (xT : TypeId) (w : World) : (Instr.typeAssert (.iface 54 v) xT 104 true).run Try.prog w = .ok (.tuple #[.nilIface, .bool false]) w :=
  run_typeAssert_lacksB Try.underlying104 (by kernel_rfl) (by kernel_rfl) v xT w
theorem hasPrep (v : Value) (xT : TypeId) (w : World) : (Instr.typeAssert (.iface 60 v) xT 104 true).run Try.prog w = .ok (.tuple #[.iface 60 v, .bool true]) w :=
  run_typeAssert_hasB Try.underlying104 (by kernel_rfl) v xT w
set_option maxRecDepth 100000 in
set_option maxHeartbeats 2000000 in
theorem arrPrep (w : World) (ga gs : Nat) (x : Value) (hb : Whole w ga 88 #[x, .iface 54 (.pointer (some ⟨gs, 0, none⟩))]) :
    Calls Try.prog 85 #[.pointer (some ⟨ga, 0, none⟩)] w fun e w' => e = .returned .nilIface ∧ Keeps (fun _ => False) w w' := by
  have hlt := hb.lt
  have hno := noPrep
  have c1 : w.cell? ⟨ga, 1, none⟩ = some (.iface 54 (.pointer (some ⟨gs, 0, none⟩))) := hb.cell 1
  go_enter Try.func85, Try.ntmps85
  go_wp2_with fail
  go_ret
  exact ⟨rfl, Keeps.refl _ _⟩
set_option maxRecDepth 100000 in
set_option maxHeartbeats 2000000 in
theorem arrPrepared (w : World) (ga gs : Nat) (x : Value) (hb : Whole w ga 88 #[x, .iface 54 (.pointer (some ⟨gs, 0, none⟩))]) :
    Calls Try.prog 39 #[.iface 60 (.pointer (some ⟨ga, 0, none⟩))] w fun e w' => e = .returned (.bool true) ∧ Keeps (fun _ => False) w w' := by
  have HP := Lib.hid (arrPrep w ga gs x hb)
  have hyes := hasPrep
  have hme : (method 268 60 (.pointer (some ⟨ga, 0, none⟩)) "Prepare").run Try.prog w = .ok (85, .pointer (some ⟨ga, 0, none⟩)) w := mPrep w ga _
  clear hb
  go_enter Try.func39, Try.ntmps39
  go_wp2_with fail
  refine HP.out.mono ?_
  rintro e w2 ⟨rfl, K⟩
  have HK := Lib.hid K
  clear K
  go_wp2_with fail
  go_ret
  exact ⟨rfl, HK.out⟩
end Go.Proofs.Ytpcjifhklofofaa
