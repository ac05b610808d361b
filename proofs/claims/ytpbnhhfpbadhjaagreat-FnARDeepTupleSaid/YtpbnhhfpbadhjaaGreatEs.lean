/- encodes: a column of arrays of strings made ready and encoded. -/
import Derived.Test.YtpbnhhfpbadhjaaGreatEa
import Derived.Defers
import Derived.Recover
namespace Go.Proofs.YtpbnhhfpbadhjaaGreat
open Go.RowKit Go.Lib
set_option linter.unusedVariables false
theorem caughtIdle (p : Addr) (w : World) :
    CallsD Tryz.prog 43 #[.pointer (some p)] .returning w fun e u' w' => e = .returned (.tuple #[]) ∧ u' = .returning ∧ w = w' := by
  refine callsD_of_wpS Tryz.func43 rfl fun c₀ cs hu => ?_
  apply wpS_seq
  apply wpS_region
  simp [wpOpsS, go_sem, recoverD, hu, Tryz.ntmps43, Exit.thenS]
  refine wpS_cond (t := false) (by simp [Act.eval, Array.replicate]) ?_
  simp only [Bool.false_eq_true, if_false]
  refine wpS_of_wp (wp_skip ?_)
  cases c₀
  simp_all [bodyPostS, results, Tryz.results43]
theorem results_tc {P : Program} {fn : Func} {t u : Tmp} {ty : TypeId} (h : fn.results = #[.tmp u, .cell t ty]) (tmps : Array Value) (p : Addr) (w : World) (x : Value) (hp : tmps.getD t undef = .pointer (some p)) (hx : (loadVar ty p).run P w = .ok x w) :
    (results fn tmps).run P w = .ok (.tuple #[tmps.getD u undef, x]) w := by
  have hp2 : tmps[t]?.getD undef = .pointer (some p) := by simpa using hp
  simp [results, h, hp2, asAddr, hx]
def EncOk (w : World) (l : List UInt8) (e : Ending) (w' : World) : Prop := ∃ A c b, e = .returned (.tuple #[.slice A l.length c, .bool true]) ∧ w.heap.size ≤ b ∧ w'.ownsRow b 5 1 (.slice A l.length c) l.length (Lib.byteCells l) ∧ Keeps (fun _ => False) w w'
set_option maxRecDepth 100000 in
set_option maxHeartbeats 2000000 in
theorem encodesArr (w : World) (b0 ga gs : Nat) (O : Option Addr) (ko : Nat) (A : Option Addr) (c : Nat) (B : Option Addr) (d : Nat) (RR : List (List ByteArray)) (hC : ArrAt w b0 ga gs O ko A c B d RR)
    (hn : (arrB RR).length ≤ 1000000) (hRR : RR.length ≤ 1000) (hfl : (RR.flatten.map sl).flatten.length ≤ 1000000) (hfn : RR.flatten.length ≤ 100000) :
    Calls Tryz.prog 33 #[.iface 51 (.pointer (some ⟨ga, 0, none⟩))] w fun e w' => EncOk w (arrB RR) e w' := by
  have hlt := hC.blk.lt
  have HE := Lib.hid (fun w2 (K : Keeps (fun _ => False) w w2) => encodedArr w2 b0 ga gs O ko A c B d RR (hC.new K) hn hRR hfl hfn)
  have HPR := Lib.hid (fun w2 (K : Keeps (fun _ => False) w w2) => arrPrepared w2 ga gs _ (hC.new K).blk)
  clear hC hn hRR hfl hfn
  generalize hl : arrB RR = l at *
  have HLL := Lib.hid hl
  clear hl
  go_enter_defers Tryz.func33, Tryz.ntmps33
  go_wp2_with fail
  refine (HPR.out _ (by exact (Keeps.refl (fun _ => False) w).alloc (.cells #[.bool false] 4))).mono ?_
  rintro e w1 ⟨rfl, K1⟩
  have hb1 := (Whole.new w 4 #[.bool false]).keeps K1 (fun h => h)
  have HK1 := Lib.hid (((Keeps.refl (fun _ => False) w).alloc (.cells #[.bool false] 4)).trans K1 (fun _ _ h => h))
  clear K1
  go_wp2_with fail
  refine (HE.out w1 HK1.out).mono ?_
  rintro e w2 ⟨A2, c2, rfl, ho, K2⟩
  have hb2 := hb1.keeps K2 (fun h => h)
  have hw1 := hb1.lt
  have hcb : w2.cell? ⟨w.heap.size, 0, none⟩ = some (.bool false) := hb2.cell 0
  have hfz : w2.frozen? ⟨w.heap.size, 0, none⟩ = false := hb2.frozen 0
  have HO := Lib.hid ho
  have HK2 := Lib.hid K2
  clear ho K2 hb1 hb2
  go_wp2
  refine leaves_cons (f := 43) (args := #[.pointer (some ⟨w.heap.size, 0, none⟩)]) (by simp) (by simp [go_sem]) ?_
  refine (caughtIdle ⟨w.heap.size, 0, none⟩ _).mono ?_
  rintro e u' w'' ⟨rfl, rfl, rfl⟩
  have hb' : (w2.setCell ⟨w.heap.size, 0, none⟩ (.bool true)).cell? ⟨w.heap.size, 0, none⟩ = some (.bool true) := by
    exact World.cell?_setCell_same _ _ _ hcb
  simp [Leaves, settle, results, Tryz.results33, go_sem, hb']
  have hlow := HO.out.lt
  rw [ownBlock_slice] at hlow
  have K5 := (Keeps.refl (fun i => i = w.heap.size) w2).setCell (p := ⟨w.heap.size, 0, none⟩) (.inl rfl) (.bool true)
  exact ⟨A2, c2, w1.heap.size, rfl, by omega, own_keeps HO.out K5 (fun k hk h => by rw [ownBlock_slice] at hk; have := (hlow k hk).1; omega), (HK1.out.trans HK2.out (fun _ _ h => h)).trans K5 (fun i hi h => by omega)⟩
end Go.Proofs.YtpbnhhfpbadhjaaGreat
