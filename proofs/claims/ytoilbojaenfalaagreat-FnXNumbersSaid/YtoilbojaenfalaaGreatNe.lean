/- A column of arrays of numbers of 32 bits encoded into a buffer; columns made ready and encoded, of whatever kind. Conditions: sizes far below the machine's; the column lies below the buffer. -/
import Derived.Test.YtoilbojaenfalaaGreatNa
import Derived.Test.YtoilbojaenfalaaGreatNc
namespace Go.Proofs.YtoilbojaenfalaaGreat
open Go.RowKit Go.Lib
set_option linter.unusedVariables false
def narrB (RR : List (List Nat)) : List UInt8 := u64s (ends 0 (RR.map List.length)) ++ u32s RR.flatten
def NArrEnc (w : World) (base bb : Nat) (X : Option Addr) (l : List UInt8) (RR : List (List Nat)) (e : Ending) (w' : World) : Prop := ∃ A' c', e = .returned (.tuple #[]) ∧ Put w w' base bb X A' c' (l ++ narrB RR)
set_option maxRecDepth 100000 in
set_option maxHeartbeats 2000000 in
theorem encNArr (w : World) (b0 base ga gs : Nat) (O : Option Addr) (ko : Nat) (A : Option Addr) (c : Nat) (RR : List (List Nat)) (bb : Nat) (X : Option Addr) (cx : Nat) (l : List UInt8) (hC : NArrAt w b0 ga gs O ko A c RR) (hB : BufAt w base bb X cx l)
    (hO : ∀ k, ob O = some k → k < base) (hA : ∀ k, ob A = some k → k < base) (hgs : gs < base)
    (hn : l.length ≤ 1000000) (hRR : RR.length ≤ 1000) (hfn : RR.flatten.length ≤ 100000) :
    Calls Tryz.prog 88 #[.agg #[.slice O RR.length ko, .iface 53 (.pointer (some ⟨gs, 0, none⟩))], .pointer (some ⟨bb, 0, none⟩)] w fun e w' => NArrEnc w base bb X l RR e w' := by
  have hlt := hB.blk.lt
  have hbase : base ≤ w.heap.size := by have := hB.lo; omega
  have hbl := hB.lo
  have HB := Lib.hid hB
  have HC := Lib.hid hC
  have HO := Lib.hid hO
  have HA := Lib.hid hA
  have HN := Lib.hid hn
  have HXl := Lib.hid hB.row_lo
  have HFN := Lib.hid hfn
  have HRR := Lib.hid hRR
  clear hC hB hO hA hn hfn hRR
  have HU := Lib.hid (fun (w1 : World) (K : Keeps (fun _ => False) w w1) => encU64 w1 base bb X cx l O RR.length ko (ends 0 (RR.map List.length)) (HB.out.keeps K (fun h => h) (fun _ _ h => h)) (by have := HN.out; omega) (by rw [ends_length, List.length_map]) (by have := HRR.out; omega) (Rd.own (own_keeps HC.out.off K (fun _ _ h => h))) (fun k hk => by
    have h1 := HO.out k hk
    exact ⟨by omega, fun h => by have := (HXl.out k h).1; omega⟩))
  have hul : (u64s (ends 0 (RR.map List.length))).length = 8 * RR.length := by rw [u64s_length, ends_length, List.length_map]
  have HUL := Lib.hid hul
  clear hul
  generalize RR.length = M at *
  go_enter Tryz.func88, Tryz.ntmps88
  go_wp2_with fail
  have K0 := (Keeps.refl (fun _ => False) w).alloc (.cells #[.slice O M ko, .iface 53 (.pointer (some ⟨gs, 0, none⟩))] 166)
  have hbx := Whole.new w 166 #[.slice O M ko, .iface 53 (.pointer (some ⟨gs, 0, none⟩))]
  have HU1 := HU.out _ K0
  clear HU
  generalize (w.alloc (.cells #[.slice O M ko, .iface 53 (.pointer (some ⟨gs, 0, none⟩))] 166)) = w1 at *
  refine HU1.mono ?_
  rintro e w2 ⟨X2, c2, rfl, hP⟩
  have hbx2 := hbx.keeps hP.keeps (by
    rintro (h | h)
    · omega
    · have := (HXl.out _ h).2
      omega)
  have hx1 : w2.cell? ⟨w.heap.size, 1, none⟩ = some (.iface 53 (.pointer (some ⟨gs, 0, none⟩))) := hbx2.cell 1
  have hlt2 := hbx2.lt
  have hcol : NumAt w2 b0 gs A c RR.flatten := (HC.out.col.new K0).keeps hP.keeps (by
    rintro (h | h)
    · omega
    · have := (HXl.out _ h).1
      omega) (fun k hk h => by
    have h1 := HA.out k hk
    rcases h with h | h
    · omega
    · have := (HXl.out _ h).1
      omega)
  have HK0 := Lib.hid K0
  have hbytes : Hid (l ++ u64s (ends 0 (RR.map List.length)) ++ u32s RR.flatten = l ++ narrB RR) := Lib.hid (by rw [narrB, List.append_assoc])
  have hbn : (l ++ u64s (ends 0 (RR.map List.length))).length ≤ 1000000000 := by
    have h1 := HUL.out
    have h2 := HN.out
    have h3 := HRR.out
    rw [List.length_append]
    omega
  have HFF := Lib.hid HFN.out
  clear HFN HUL
  generalize RR.flatten = Q at *
  generalize hG : Q.length = G at *
  have hown : w2.ownsRow b0 26 1 (.slice A G c) G (nv Q) := by have := hcol.own; rw [hG] at this; exact this
  have hblk : Whole w2 gs 54 #[.slice A G c] := by have := hcol.blk; rw [hG] at this; exact this
  have HS := Lib.hid (encU32 w2 base bb X2 c2 (l ++ u64s (ends 0 (RR.map List.length))) A G c Q hP.at' hbn hG (by have := HFF.out; omega) (Rd.own hown) (fun k hk => by
    have h1 := HA.out k hk
    exact ⟨by omega, fun h => by have := (hP.at'.row_lo k h).1; omega⟩))
  have hme : (method 499 53 (.pointer (some ⟨gs, 0, none⟩)) "EncodeColumn").run Tryz.prog w2 = .ok (109, .slice A G c) w2 := mNmEnc hblk _
  have HP := Lib.hid hP
  have HG := Lib.hid hG
  clear hP hcol hbx hbx2 HU1 K0 hown hbn hG hblk
  go_wp2_with fail
  refine HS.out.mono ?_
  rintro e w3 ⟨X3, c3, rfl, hP3⟩
  have HP3 := Lib.hid (HP.out.trans hP3)
  clear hP3
  go_wp2_with fail
  go_end0
  have hfin := HP3.out
  rw [hbytes.out] at hfin
  exact ⟨X3, c3, rfl, ⟨hfin.at', (HK0.out.mono (S' := fun k => k = bb ∨ ob X = some k) (fun _ _ h => h.elim)).trans hfin.keeps (fun _ _ h => h), hfin.row.imp id fun h k hk => Nat.le_trans HK0.out.size (h k hk)⟩⟩
end Go.Proofs.YtoilbojaenfalaaGreat
