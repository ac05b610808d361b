/- A column of arrays of strings encoded into a new buffer of its own: through a bound method. -/
import Derived.Test.YtpbnhhfpbadhjaaGreatPre
namespace Go.Proofs.YtpbnhhfpbadhjaaGreat
open Go.RowKit Go.Lib
set_option linter.unusedVariables false
theorem infoMA : (Tryz.prog.info? 51).map (fun i => (i.methods.find? (·.name == "EncodeColumn")).map (fun m => (m.path.toList.length, m.func))) = some (some (0, some (106, false))) := by kernel_rfl
theorem infoCA : (Tryz.prog.info? 126).map (·.size) = some 2 := by kernel_rfl
theorem mEncA {w : World} {ga : Nat} {x y : Value} (hW : Whole w ga 126 #[x, y]) (fuel : Nat) : (method (fuel + 1) 51 (.pointer (some ⟨ga, 0, none⟩)) "EncodeColumn").run Tryz.prog w = .ok (106, .agg #[x, y]) w := by
  obtain ⟨i, m, h1, h2, h3, h4⟩ := method_row infoMA
  exact method_val h1 h2 h3 h4 Tryz.underlying51 (run_loadVar_row (P := Tryz.prog) w ga 126 126 _ (0, 0) _ hW Tryz.underlying126 rfl infoCA)
def EncRes (w : World) (l : List UInt8) (e : Ending) (w' : World) : Prop := ∃ A c, e = .returned (.slice A l.length c) ∧ w'.ownsRow w.heap.size 5 1 (.slice A l.length c) l.length (Lib.byteCells l) ∧ Keeps (fun _ => False) w w'
set_option maxRecDepth 100000 in
set_option maxHeartbeats 2000000 in
theorem encodedArr (w : World) (b0 ga gs : Nat) (O : Option Addr) (ko : Nat) (A : Option Addr) (c : Nat) (B : Option Addr) (d : Nat) (RR : List (List ByteArray)) (hC : ArrAt w b0 ga gs O ko A c B d RR)
    (hn : (arrB RR).length ≤ 1000000) (hRR : RR.length ≤ 1000) (hfl : (RR.flatten.map sl).flatten.length ≤ 1000000) (hfn : RR.flatten.length ≤ 100000) :
    Calls Tryz.prog 35 #[.func (.method "EncodeColumn") #[.iface 51 (.pointer (some ⟨ga, 0, none⟩))] #[]] w fun e w' => EncRes w (arrB RR) e w' := by
  have hlt := hC.blk.lt
  have K1 := (Keeps.refl (fun _ => False) w).alloc (.cells #[.slice none 0 0] 224)
  have hC1 := hC.new K1
  have hB1 := bufNew w (Nat.le_refl _)
  have hO := hC.off.lt
  have hAA := hC.col.buf.lt
  have hBB := hC.col.pos.lt
  have hgs := hC.col.blk.lt
  rw [ownBlock_slice] at hO hAA hBB
  have HE := Lib.hid (encArr _ b0 w.heap.size ga gs O ko A c B d RR w.heap.size none 0 [] hC1 hB1 (fun k hk => (hO k hk).2) (fun k hk => (hAA k hk).2) (fun k hk => (hBB k hk).2) hgs (by rw [List.length_nil, Nat.zero_add]; exact hn) hRR hfl hfn)
  have hme := mEncA hC1.blk
  have HK := Lib.hid K1
  generalize hl : arrB RR = l at *
  have HLL := Lib.hid hl
  clear hl
  generalize RR.length = M at *
  clear hC hC1 hB1 hO hAA hBB K1 hn hRR hfl hfn
  go_enter Tryz.func35, Tryz.ntmps35
  go_wp2_with fail
  refine HE.out.mono ?_
  rintro e w2 ⟨A2, c2, rfl, hP⟩
  rw [List.nil_append, HLL.out] at hP
  have hb := hP.at'
  have hc1 : w2.cell? ⟨w.heap.size, 0, none⟩ = some (.slice A2 l.length c2) := hb.blk.cell 0
  have HP := Lib.hid hP
  have HOW := Lib.hid hb.own
  clear hP hb
  go_wp2_with fail
  go_ret
  exact ⟨A2, c2, rfl, HOW.out, HK.out.trans HP.out.keeps (fun i hi h => by rcases h with rfl | h; (omega); cases h)⟩
end Go.Proofs.YtpbnhhfpbadhjaaGreat
