/- A column of strings behind the package's own interface: made, and a text appended. Conditions: sizes far below the machine's. -/
import Derived.Test.YtpbnhhfpbadhjaaGreatEa
import Derived.Deep.RegionLaw
namespace Go.Proofs.YtpbnhhfpbadhjaaGreat
open Go.RowKit Go.Lib
set_option linter.unusedVariables false
/-- The value behind the interface. -/
def txV (g : Nat) : Value := .agg #[.iface 56 (.pointer (some ⟨g, 0, none⟩)), .func (.func 45) #[] #[], .func (.func 46) #[] #[], .func (.func 47) #[.pointer (some ⟨g, 0, none⟩)] #[]]
theorem method_own {P : Program} {fuel : Nat} {t : TypeId} {i : TypeInfo} {m : _} {name : String} {f : FuncId} {w : World} {v : Value} {fs : Array Field} (hi : P.info? t = some i) (hm : i.methods.find? (·.name == name) = some m) (hp : m.path = #[]) (hf : m.func = some (f, false))
    (hu : P.underlying t = some (.struct fs)) : (method (fuel + 1) t v name).run P w = .ok (f, v) w := by
  unfold method
  simp only [Sem.run_bind, run_typeInfo w hi, Result.andThen_ok, hm, hp, hf, follow, Sem.run_pure, receiverAt, run_underlying hu, Place.get, Array.isEmpty_empty, if_true, List.toList_toArray]
theorem infoMAdd : (Tryz.prog.info? 135).map (fun i => (i.methods.find? (·.name == "given.example/pub-clapboard/impl.add")).map (fun m => (m.path.toList.length, m.func))) = some (some (0, some (218, false))) := by kernel_rfl
theorem mAdd (w : World) (g : Nat) (fuel : Nat) : (method (fuel + 1) 135 (txV g) "given.example/pub-clapboard/impl.add").run Tryz.prog w = .ok (218, txV g) w := by
  obtain ⟨i, m, h1, h2, h3, h4⟩ := method_row infoMAdd
  exact method_own h1 h2 h3 h4 Tryz.underlying135
theorem infoMCA : (Tryz.prog.info? 56).map (fun i => (i.methods.find? (·.name == "Append")).map (fun m => (m.path.toList.length, m.func))) = some (some (0, some (42, true))) := by kernel_rfl
theorem mColApp (w : World) (g : Nat) (fuel : Nat) : (method (fuel + 1) 56 (.pointer (some ⟨g, 0, none⟩)) "Append").run Tryz.prog w = .ok (42, .pointer (some ⟨g, 0, none⟩)) w := by
  obtain ⟨i, m, h1, h2, h3, h4⟩ := method_row infoMCA
  exact method_ptr h1 h2 h3 h4 Tryz.underlying56
theorem cv_tx {w : World} {A : Option Addr} {n c : Nat} {l : List UInt8} (h : Rd w 1 A n (Lib.byteCells l)) : (convert 33 9 (.slice A n c)).run Tryz.prog w = .ok (.string ⟨l.toArray⟩) w :=
  run_str_rd Tryz.underlying33 Tryz.underlying5 Tryz.underlying9 h
set_option maxRecDepth 100000 in
theorem txText (w : World) (A : Option Addr) (n c : Nat) (l : List UInt8) (h : Rd w 1 A n (Lib.byteCells l)) :
    Calls Tryz.prog 45 #[.slice A n c] w fun e w' => e = .returned (.string ⟨l.toArray⟩) ∧ w = w' := by
  have hc := cv_tx (c := c) h
  go_enter Tryz.func45, Tryz.ntmps45
  go_wp2_with fail
  go_ret
  exact ⟨rfl, rfl⟩
def ColNew (w : World) (e : Ending) (w' : World) : Prop := ∃ g, e = .returned (.iface 135 (txV g)) ∧ ColAt w' w.heap.size g none 0 none 0 [] ∧ Keeps (fun _ => False) w w'
set_option maxRecDepth 100000 in
set_option maxHeartbeats 1000000 in
theorem column0 (w : World) :
    Calls Tryz.prog 34 #[.agg #[.int .i64 0, .int .i64 0]] w fun e w' => ColNew w e w' := by
  have K0 := (Keeps.refl (fun _ => False) w).alloc (.cells #[.int .i64 0, .int .i64 0] 41)
  have hc := colNew (w.alloc (.cells #[.int .i64 0, .int .i64 0] 41)) K0.size
  have hs : (World.heap (w.alloc (.cells #[.int .i64 0, .int .i64 0] 41))).size = w.heap.size + 1 := by simp
  rw [hs] at hc
  have HC := Lib.hid hc
  have HK := Lib.hid (K0.alloc (.cells #[.slice none 0 0, .slice none 0 0] 59))
  clear hc K0 hs
  go_enter Tryz.func34, Tryz.ntmps34
  go_wp2_with fail
  go_ret
  exact ⟨w.heap.size + 1, rfl, HC.out, HK.out⟩
theorem sl_arr (l : List UInt8) : sl ⟨l.toArray⟩ = l := by simp [sl]

set_option maxRecDepth 100000 in
set_option maxHeartbeats 2000000 in
theorem txAdd (w : World) (base g : Nat) (A : Option Addr) (c : Nat) (B : Option Addr) (d : Nat) (L : List (List UInt8)) (E : Option Addr) (n k0 : Nat) (l : List UInt8) (hC : ColAt w base g A c B d L) (hR : Rd w 1 E n (Lib.byteCells l)) (hn : L.flatten.length ≤ 1000000000) (hL : L.length ≤ 1000000) (hv : l.length ≤ 1000000) :
    Calls Tryz.prog 218 #[txV g, .slice E n k0] w fun e w' => ColRes w base g A B (L ++ [l]) e w' := by
  have hlt := hC.blk.lt
  have K0 := (Keeps.refl (fun _ => False) w).alloc (.cells #[.iface 56 (.pointer (some ⟨g, 0, none⟩)), .func (.func 45) #[] #[], .func (.func 46) #[] #[], .func (.func 47) #[.pointer (some ⟨g, 0, none⟩)] #[]] 135)
  have HR := Lib.hid (hR.keeps K0.drew (fun _ _ h => h))
  have HA := Lib.hid (colAppend _ base g A c B d L ⟨l.toArray⟩ (hC.new K0.drew) hn hL (by rw [← sl_length, sl_arr]; exact hv))
  rw [sl_arr] at HA
  have HK := Lib.hid K0.drew
  have hme := mColApp
  clear hC hR hn hL hv K0
  unfold txV
  go_enter Tryz.func218, Tryz.ntmps218
  go_wp2_with fail
  go_region_law (first
    | (go_simp; go_at_call 45; refine (txText _ _ _ _ _ HR.out).mono ?_; rintro e w2 ⟨rfl, rfl⟩)
    | (go_simp; go_at_call 42; refine HA.out.mono ?_; rintro e w3 ⟨A', c', B', d', rfl, hP⟩))
  all_goals
    go_end0
    exact ⟨A', c', B', d', rfl, ColPut.behind HK.out hP⟩
end Go.Proofs.YtpbnhhfpbadhjaaGreat
