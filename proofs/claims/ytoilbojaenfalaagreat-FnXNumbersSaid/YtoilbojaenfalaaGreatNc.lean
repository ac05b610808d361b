/- Columns made ready and encoded, of whatever kind. Conditions: what the method called is shown to do. -/
import Derived.Test.YtoilbojaenfalaaGreatEs
import Derived.Test.YtoilbojaenfalaaGreatNm
import Derived.Test.YtoilbojaenfalaaGreatPre
namespace Go.Proofs.YtoilbojaenfalaaGreat
open Go.RowKit Go.Lib
set_option linter.unusedVariables false
theorem noPrepN (v : Value) (xT : TypeId) (w : World) : (Instr.typeAssert (.iface 53 v) xT 275 true).run Tryz.prog w = .ok (.tuple #[.nilIface, .bool false]) w :=
  run_typeAssert_lacksB Tryz.underlying275 (by kernel_rfl) (by kernel_rfl) v xT w
/-- A column of whatever kind, encoded into a new buffer. -/
def bufW (w : World) : World := w.alloc (.cells #[.slice none 0 0] 152)
set_option maxRecDepth 100000 in
set_option maxHeartbeats 2000000 in
theorem encodedV (w : World) (T : TypeId) (p recv : Value) (f : FuncId) (l : List UInt8) (hf : ∀ args w, (callFunc f args).run Tryz.prog w = .ok (.enter f args) w) (hme : ∀ fuel, (method (fuel + 1) T p "EncodeColumn").run Tryz.prog (bufW w) = .ok (f, recv) (bufW w))
    (hE : Calls Tryz.prog f #[recv, .pointer (some ⟨w.heap.size, 0, none⟩)] (bufW w) fun e w' => ∃ A' c', e = .returned (.tuple #[]) ∧ Put (bufW w) w' w.heap.size w.heap.size none A' c' l) :
    Calls Tryz.prog 13 #[.func (.method "EncodeColumn") #[.iface T p] #[]] w fun e w' => EncRes w l e w' := by
  have K1 := (Keeps.refl (fun _ => False) w).alloc (.cells #[.slice none 0 0] 152)
  have HE := Lib.hid hE
  have HK := Lib.hid K1
  unfold bufW at hme HE
  clear hE K1
  go_enter Tryz.func13, Tryz.ntmps13
  go_wp2_with fail
  refine HE.out.mono ?_
  rintro e w2 ⟨A2, c2, rfl, hP⟩
  have hb := hP.at'
  have hc1 : w2.cell? ⟨w.heap.size, 0, none⟩ = some (.slice A2 l.length c2) := hb.blk.cell 0
  have HP := Lib.hid hP
  have HOW := Lib.hid hb.own
  clear hP hb
  go_wp2_with fail
  go_ret
  exact ⟨A2, c2, rfl, HOW.out, HK.out.trans HP.out.keeps (fun i hi h => by rcases h with rfl | h; (omega); cases h)⟩
set_option maxRecDepth 100000 in
set_option maxHeartbeats 2000000 in
theorem encodesV (w : World) (T : TypeId) (p : Value) (l : List UInt8) (hP : ∀ w', Keeps (fun _ => False) w w' → Calls Tryz.prog 45 #[.iface T p] w' fun e w'' => e = .returned (.bool true) ∧ Keeps (fun _ => False) w' w'')
    (hE : ∀ w', Keeps (fun _ => False) w w' → Calls Tryz.prog 13 #[.func (.method "EncodeColumn") #[.iface T p] #[]] w' fun e w'' => EncRes w' l e w'') :
    Calls Tryz.prog 16 #[.iface T p] w fun e w' => EncOk w l e w' := by
  have HE := Lib.hid hE
  have HPR := Lib.hid hP
  clear hE hP
  go_enter_defers Tryz.func16, Tryz.ntmps16
  go_wp2_with fail
  refine (HPR.out _ (by exact (Keeps.refl (fun _ => False) w).alloc (.cells #[.bool false] 4))).mono ?_
  rintro e w1 ⟨rfl, K1⟩
  have hb1 := (Whole.new w 4 #[.bool false]).keeps K1 (fun h => h)
  have HK1 := Lib.hid (((Keeps.refl (fun _ => False) w).alloc (.cells #[.bool false] 4)).trans K1 (fun _ _ h => h))
  clear K1
  go_wp2_with fail
  refine (HE.out w1 HK1.out).mono ?_
  rintro e w2 ⟨A2, c2, rfl, ho, K2⟩
  have hb2 := hb1.keeps K2 (fun h => h)
  have hw1 := hb1.lt
  have hcb : w2.cell? ⟨w.heap.size, 0, none⟩ = some (.bool false) := hb2.cell 0
  have hfz : w2.frozen? ⟨w.heap.size, 0, none⟩ = false := hb2.frozen 0
  have HO := Lib.hid ho
  have HK2 := Lib.hid K2
  clear ho K2 hb1 hb2
  go_wp2
  refine leaves_cons (f := 42) (args := #[.pointer (some ⟨w.heap.size, 0, none⟩)]) (by simp) (by simp [go_sem]) ?_
  refine (caughtIdle ⟨w.heap.size, 0, none⟩ _).mono ?_
  rintro e u' w'' ⟨rfl, rfl, rfl⟩
  have hb' : (w2.setCell ⟨w.heap.size, 0, none⟩ (.bool true)).cell? ⟨w.heap.size, 0, none⟩ = some (.bool true) := by
    exact World.cell?_setCell_same _ _ _ hcb
  simp [Leaves, settle, results, Tryz.results16, go_sem, hb']
  have hlow := HO.out.lt
  rw [ownBlock_slice] at hlow
  have K5 := (Keeps.refl (fun i => i = w.heap.size) w2).setCell (p := ⟨w.heap.size, 0, none⟩) (.inl rfl) (.bool true)
  exact ⟨A2, c2, w1.heap.size, rfl, by omega, own_keeps HO.out K5 (fun k hk h => by rw [ownBlock_slice] at hk; have := (hlow k hk).1; omega), (HK1.out.trans HK2.out (fun _ _ h => h)).trans K5 (fun i hi h => by omega)⟩
end Go.Proofs.YtoilbojaenfalaaGreat
