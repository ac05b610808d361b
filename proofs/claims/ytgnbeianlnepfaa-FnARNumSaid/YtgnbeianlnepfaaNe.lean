/- A column of arrays of numbers of 32 bits encoded into a buffer; columns made ready and encoded, of whatever kind. Conditions: sizes far below the machine's; the column lies below the buffer. -/
import Derived.Test.YtgnbeianlnepfaaNa
namespace Go.Proofs.Ytgnbeianlnepfaa
open Go.RowKit Go.Lib
set_option linter.unusedVariables false
def narrB (RR : List (List Nat)) : List UInt8 := u64s (ends 0 (RR.map List.length)) ++ u32s RR.flatten
def NArrEnc (w : World) (base bb : Nat) (X : Option Addr) (l : List UInt8) (RR : List (List Nat)) (e : Ending) (w' : World) : Prop := ∃ A' c', e = .returned (.tuple #[]) ∧ Put w w' base bb X A' c' (l ++ narrB RR)
set_option maxRecDepth 100000 in
set_option maxHeartbeats 2000000 in
theorem encNArr (w : World) (b0 base ga gs : Nat) (O : Option Addr) (ko : Nat) (A : Option Addr) (c : Nat) (RR : List (List Nat)) (bb : Nat) (X : Option Addr) (cx : Nat) (l : List UInt8) (hC : NArrAt w b0 ga gs O ko A c RR) (hB : BufAt w base bb X cx l)
    (hO : ∀ k, ob O = some k → k < base) (hA : ∀ k, ob A = some k → k < base) (hgs : gs < base)
    (hn : l.length ≤ 1000000) (hRR : RR.length ≤ 1000) (hfn : RR.flatten.length ≤ 100000) :
    Calls Try.prog 117 #[.agg #[.slice O RR.length ko, .iface 68 (.pointer (some ⟨gs, 0, none⟩))], .pointer (some ⟨bb, 0, none⟩)] w fun e w' => NArrEnc w base bb X l RR e w' := by
  have hlt := hB.blk.lt
  have hbase : base ≤ w.heap.size := by have := hB.lo; omega
  have hbl := hB.lo
  have HB := Lib.hid hB
  have HC := Lib.hid hC
  have HO := Lib.hid hO
  have HA := Lib.hid hA
  have HN := Lib.hid hn
  have HXl := Lib.hid hB.row_lo
  have HFN := Lib.hid hfn
  have HRR := Lib.hid hRR
  clear hC hB hO hA hn hfn hRR
  have HU := Lib.hid (fun (w1 : World) (K : Keeps (fun _ => False) w w1) => encU64 w1 base bb X cx l O RR.length ko (ends 0 (RR.map List.length)) (HB.out.keeps K (fun h => h) (fun _ _ h => h)) (by have := HN.out; omega) (by rw [ends_length, List.length_map]) (by have := HRR.out; omega) (Rd.own (own_keeps HC.out.off K (fun _ _ h => h))) (fun k hk => by
    have h1 := HO.out k hk
    exact ⟨by omega, fun h => by have := (HXl.out k h).1; omega⟩))
  have hul : (u64s (ends 0 (RR.map List.length))).length = 8 * RR.length := by rw [u64s_length, ends_length, List.length_map]
  have HUL := Lib.hid hul
  clear hul
  generalize RR.length = M at *
  go_enter Try.func117, Try.ntmps117
  go_wp2_with fail
  have K0 := (Keeps.refl (fun _ => False) w).alloc (.cells #[.slice O M ko, .iface 68 (.pointer (some ⟨gs, 0, none⟩))] 130)
  have hbx := Whole.new w 130 #[.slice O M ko, .iface 68 (.pointer (some ⟨gs, 0, none⟩))]
  have HU1 := HU.out _ K0
  clear HU
  generalize (w.alloc (.cells #[.slice O M ko, .iface 68 (.pointer (some ⟨gs, 0, none⟩))] 130)) = w1 at *
  refine HU1.mono ?_
  rintro e w2 ⟨X2, c2, rfl, hP⟩
  have hbx2 := hbx.keeps hP.keeps (by
    rintro (h | h)
    · omega
    · have := (HXl.out _ h).2
      omega)
  have hx1 : w2.cell? ⟨w.heap.size, 1, none⟩ = some (.iface 68 (.pointer (some ⟨gs, 0, none⟩))) := hbx2.cell 1
  have hlt2 := hbx2.lt
  have hcol : NumAt w2 b0 gs A c RR.flatten := (HC.out.col.new K0).keeps hP.keeps (by
    rintro (h | h)
    · omega
    · have := (HXl.out _ h).1
      omega) (fun k hk h => by
    have h1 := HA.out k hk
    rcases h with h | h
    · omega
    · have := (HXl.out _ h).1
      omega)
  have HK0 := Lib.hid K0
  have hbytes : Hid (l ++ u64s (ends 0 (RR.map List.length)) ++ u32s RR.flatten = l ++ narrB RR) := Lib.hid (by rw [narrB, List.append_assoc])
  have hbn : (l ++ u64s (ends 0 (RR.map List.length))).length ≤ 1000000000 := by
    have h1 := HUL.out
    have h2 := HN.out
    have h3 := HRR.out
    rw [List.length_append]
    omega
  have HFF := Lib.hid HFN.out
  clear HFN HUL
  generalize RR.flatten = Q at *
  generalize hG : Q.length = G at *
  have hown : w2.ownsRow b0 30 1 (.slice A G c) G (nv Q) := by have := hcol.own; rw [hG] at this; exact this
  have hblk : Whole w2 gs 69 #[.slice A G c] := by have := hcol.blk; rw [hG] at this; exact this
  have HS := Lib.hid (encU32 w2 base bb X2 c2 (l ++ u64s (ends 0 (RR.map List.length))) A G c Q hP.at' hbn hG (by have := HFF.out; omega) (Rd.own hown) (fun k hk => by
    have h1 := HA.out k hk
    exact ⟨by omega, fun h => by have := (hP.at'.row_lo k h).1; omega⟩))
  have hme : (method 294 68 (.pointer (some ⟨gs, 0, none⟩)) "EncodeColumn").run Try.prog w2 = .ok (91, .slice A G c) w2 := mNmEnc hblk _
  have HP := Lib.hid hP
  have HG := Lib.hid hG
  clear hP hcol hbx hbx2 HU1 K0 hown hbn hG hblk
  go_wp2_with fail
  refine HS.out.mono ?_
  rintro e w3 ⟨X3, c3, rfl, hP3⟩
  have HP3 := Lib.hid (HP.out.trans hP3)
  clear hP3
  go_wp2_with fail
  go_end0
  have hfin := HP3.out
  rw [hbytes.out] at hfin
  exact ⟨X3, c3, rfl, ⟨hfin.at', (HK0.out.mono (S' := fun k => k = bb ∨ ob X = some k) (fun _ _ h => h.elim)).trans hfin.keeps (fun _ _ h => h), hfin.row.imp id fun h k hk => Nat.le_trans HK0.out.size (h k hk)⟩⟩
theorem noPrepN (v : Value) (xT : TypeId) (w : World) : (Instr.typeAssert (.iface 68 v) xT 122 true).run Try.prog w = .ok (.tuple #[.nilIface, .bool false]) w :=
  run_typeAssert_lacksB Try.underlying122 (by kernel_rfl) (by kernel_rfl) v xT w
/-- A column of whatever kind, encoded into a new buffer. -/
def bufW (w : World) : World := w.alloc (.cells #[.slice none 0 0] 111)
set_option maxRecDepth 100000 in
set_option maxHeartbeats 2000000 in
theorem encodedV (w : World) (T : TypeId) (p recv : Value) (f : FuncId) (l : List UInt8) (hf : ∀ args w, (callFunc f args).run Try.prog w = .ok (.enter f args) w) (hme : ∀ fuel, (method (fuel + 1) T p "EncodeColumn").run Try.prog (bufW w) = .ok (f, recv) (bufW w))
    (hE : Calls Try.prog f #[recv, .pointer (some ⟨w.heap.size, 0, none⟩)] (bufW w) fun e w' => ∃ A' c', e = .returned (.tuple #[]) ∧ Put (bufW w) w' w.heap.size w.heap.size none A' c' l) :
    Calls Try.prog 52 #[.func (.method "EncodeColumn") #[.iface T p] #[]] w fun e w' => EncRes w l e w' := by
  have K1 := (Keeps.refl (fun _ => False) w).alloc (.cells #[.slice none 0 0] 111)
  have HE := Lib.hid hE
  have HK := Lib.hid K1
  unfold bufW at hme HE
  clear hE K1
  go_enter Try.func52, Try.ntmps52
  go_wp2_with fail
  refine HE.out.mono ?_
  rintro e w2 ⟨A2, c2, rfl, hP⟩
  have hb := hP.at'
  have hc1 : w2.cell? ⟨w.heap.size, 0, none⟩ = some (.slice A2 l.length c2) := hb.blk.cell 0
  have HP := Lib.hid hP
  have HOW := Lib.hid hb.own
  clear hP hb
  go_wp2_with fail
  go_ret
  exact ⟨A2, c2, rfl, HOW.out, HK.out.trans HP.out.keeps (fun i hi h => by rcases h with rfl | h; (omega); cases h)⟩
set_option maxRecDepth 100000 in
set_option maxHeartbeats 2000000 in
theorem encodesV (w : World) (T : TypeId) (p : Value) (l : List UInt8) (hP : ∀ w', Keeps (fun _ => False) w w' → Calls Try.prog 51 #[.iface T p] w' fun e w'' => e = .returned (.bool true) ∧ Keeps (fun _ => False) w' w'')
    (hE : ∀ w', Keeps (fun _ => False) w w' → Calls Try.prog 52 #[.func (.method "EncodeColumn") #[.iface T p] #[]] w' fun e w'' => EncRes w' l e w'') :
    Calls Try.prog 35 #[.iface T p] w fun e w' => EncOk w l e w' := by
  have HE := Lib.hid hE
  have HPR := Lib.hid hP
  clear hE hP
  go_enter_defers Try.func35, Try.ntmps35
  go_wp2_with fail
  refine (HPR.out _ (by exact (Keeps.refl (fun _ => False) w).alloc (.cells #[.bool false] 4))).mono ?_
  rintro e w1 ⟨rfl, K1⟩
  have hb1 := (Whole.new w 4 #[.bool false]).keeps K1 (fun h => h)
  have HK1 := Lib.hid (((Keeps.refl (fun _ => False) w).alloc (.cells #[.bool false] 4)).trans K1 (fun _ _ h => h))
  clear K1
  go_wp2_with fail
  refine (HE.out w1 HK1.out).mono ?_
  rintro e w2 ⟨A2, c2, rfl, ho, K2⟩
  have hb2 := hb1.keeps K2 (fun h => h)
  have hw1 := hb1.lt
  have hcb : w2.cell? ⟨w.heap.size, 0, none⟩ = some (.bool false) := hb2.cell 0
  have hfz : w2.frozen? ⟨w.heap.size, 0, none⟩ = false := hb2.frozen 0
  have HO := Lib.hid ho
  have HK2 := Lib.hid K2
  clear ho K2 hb1 hb2
  go_wp2
  refine leaves_cons (f := 36) (args := #[.pointer (some ⟨w.heap.size, 0, none⟩)]) (by simp) (by simp [go_sem]) ?_
  refine (caughtIdle ⟨w.heap.size, 0, none⟩ _).mono ?_
  rintro e u' w'' ⟨rfl, rfl, rfl⟩
  have hb' : (w2.setCell ⟨w.heap.size, 0, none⟩ (.bool true)).cell? ⟨w.heap.size, 0, none⟩ = some (.bool true) := by
    exact World.cell?_setCell_same _ _ _ hcb
  simp [Leaves, settle, results, Try.results35, go_sem, hb']
  have hlow := HO.out.lt
  rw [ownBlock_slice] at hlow
  have K5 := (Keeps.refl (fun i => i = w.heap.size) w2).setCell (p := ⟨w.heap.size, 0, none⟩) (.inl rfl) (.bool true)
  exact ⟨A2, c2, w1.heap.size, rfl, by omega, own_keeps HO.out K5 (fun k hk h => by rw [ownBlock_slice] at hk; have := (hlow k hk).1; omega), (HK1.out.trans HK2.out (fun _ _ h => h)).trans K5 (fun i hi h => by omega)⟩
end Go.Proofs.Ytgnbeianlnepfaa
