/- ARNum: rows of numbers encoded by a new column of arrays of numbers. Conditions: sizes far below the machine's. -/
import Derived.Test.YtoilbojaenfalaaGreatNe
import Derived.Test.YtoilbojaenfalaaGreatOk
import Derived.Test.YtoilbojaenfalaaGreatArS
import Derived.Test.YtoilbojaenfalaaGreatOpen
namespace Go.Proofs.YtoilbojaenfalaaGreat
open Go.RowKit Go.Lib
set_option linter.unusedVariables false
theorem iNaPrep : (Tryz.prog.info? 38).map (fun i => (i.methods.find? (·.name == "Prepare")).map (fun m => (m.path.toList.length, m.func))) = some (some (0, some (89, true))) := by kernel_rfl
theorem iNaApp : (Tryz.prog.info? 38).map (fun i => (i.methods.find? (·.name == "Append")).map (fun m => (m.path.toList.length, m.func))) = some (some (0, some (86, true))) := by kernel_rfl
theorem iNaEnc : (Tryz.prog.info? 38).map (fun i => (i.methods.find? (·.name == "EncodeColumn")).map (fun m => (m.path.toList.length, m.func))) = some (some (0, some (88, false))) := by kernel_rfl
theorem fNaEnc (args : Array Value) (w : World) : (callFunc 88 args).run Tryz.prog w = .ok (.enter 88 args) w := by kernel_rfl
theorem infoCNa : (Tryz.prog.info? 166).map (·.size) = some 2 := by kernel_rfl
theorem mNaPrep (w : World) (g : Nat) (fuel : Nat) : (method (fuel + 1) 38 (.pointer (some ⟨g, 0, none⟩)) "Prepare").run Tryz.prog w = .ok (89, .pointer (some ⟨g, 0, none⟩)) w := by
  obtain ⟨i, m, h1, h2, h3, h4⟩ := method_row iNaPrep
  exact method_ptr h1 h2 h3 h4 Tryz.underlying38
theorem mNaApp (w : World) (g : Nat) (fuel : Nat) : (method (fuel + 1) 38 (.pointer (some ⟨g, 0, none⟩)) "Append").run Tryz.prog w = .ok (86, .pointer (some ⟨g, 0, none⟩)) w := by
  obtain ⟨i, m, h1, h2, h3, h4⟩ := method_row iNaApp
  exact method_ptr h1 h2 h3 h4 Tryz.underlying38
theorem mNaEnc {w : World} {ga : Nat} {x y : Value} (hW : Whole w ga 166 #[x, y]) (fuel : Nat) : (method (fuel + 1) 38 (.pointer (some ⟨ga, 0, none⟩)) "EncodeColumn").run Tryz.prog w = .ok (88, .agg #[x, y]) w := by
  obtain ⟨i, m, h1, h2, h3, h4⟩ := method_row iNaEnc
  exact method_val h1 h2 h3 h4 Tryz.underlying38 (run_loadVar_row (P := Tryz.prog) w ga 166 166 _ (0, 0) _ hW Tryz.underlying166 rfl infoCNa)
theorem hasPrepNa (v : Value) (xT : TypeId) (w : World) : (Instr.typeAssert (.iface 38 v) xT 275 true).run Tryz.prog w = .ok (.tuple #[.iface 38 v, .bool true]) w :=
  run_typeAssert_hasB Tryz.underlying275 (by kernel_rfl) v xT w
set_option maxRecDepth 100000 in
set_option maxHeartbeats 2000000 in
theorem narrPrep (w : World) (ga gs : Nat) (x : Value) (hb : Whole w ga 166 #[x, .iface 53 (.pointer (some ⟨gs, 0, none⟩))]) :
    Calls Tryz.prog 89 #[.pointer (some ⟨ga, 0, none⟩)] w fun e w' => e = .returned .nilIface ∧ Keeps (fun _ => False) w w' := by
  have hlt := hb.lt
  have hno := noPrepN
  have c1 : w.cell? ⟨ga, 1, none⟩ = some (.iface 53 (.pointer (some ⟨gs, 0, none⟩))) := hb.cell 1
  go_enter Tryz.func89, Tryz.ntmps89
  go_wp2_with fail
  go_ret
  exact ⟨rfl, Keeps.refl _ _⟩
set_option maxRecDepth 100000 in
set_option maxHeartbeats 2000000 in
theorem narrPrepared (w : World) (ga gs : Nat) (x : Value) (hb : Whole w ga 166 #[x, .iface 53 (.pointer (some ⟨gs, 0, none⟩))]) :
    Calls Tryz.prog 45 #[.iface 38 (.pointer (some ⟨ga, 0, none⟩))] w fun e w' => e = .returned (.bool true) ∧ Keeps (fun _ => False) w w' := by
  have HP := Lib.hid (narrPrep w ga gs x hb)
  have hyes := hasPrepNa
  have hme : (method 499 38 (.pointer (some ⟨ga, 0, none⟩)) "Prepare").run Tryz.prog w = .ok (89, .pointer (some ⟨ga, 0, none⟩)) w := mNaPrep w ga _
  clear hb
  go_enter Tryz.func45, Tryz.ntmps45
  go_wp2_with fail
  refine HP.out.mono ?_
  rintro e w2 ⟨rfl, K⟩
  have HK := Lib.hid K
  clear K
  go_wp2_with fail
  go_ret
  exact ⟨rfl, HK.out⟩
theorem encodesNArr (w : World) (b0 ga gs : Nat) (O : Option Addr) (ko : Nat) (A : Option Addr) (c : Nat) (RR : List (List Nat)) (hC : NArrAt w b0 ga gs O ko A c RR) (hRR : RR.length ≤ 1000) (hfn : RR.flatten.length ≤ 100000) :
    Calls Tryz.prog 16 #[.iface 38 (.pointer (some ⟨ga, 0, none⟩))] w fun e w' => EncOk w (narrB RR) e w' := by
  refine encodesV w 38 _ _ (fun w' K => narrPrepared w' ga gs _ (hC.new K).blk) (fun w' K => ?_)
  have hC' := hC.new K
  have K1 : Keeps (fun _ => False) w' (bufW w') := (Keeps.refl (fun _ => False) w').alloc _
  have hC1 := hC'.new K1
  have hO := hC'.off.lt
  rw [ownBlock_slice] at hO
  refine encodedV w' 38 _ _ 88 _ fNaEnc (mNaEnc hC1.blk) ?_
  refine (encNArr _ b0 w'.heap.size ga gs O ko A c RR w'.heap.size none 0 [] hC1 (bufNew w' (Nat.le_refl _)) (fun k hk => (hO k hk).2) (fun k hk => (hC'.col.lt.2 k hk).2) hC'.col.lt.1 (by simp) hRR hfn).mono ?_
  rintro e w2 ⟨A', c', rfl, hP⟩
  rw [List.nil_append] at hP
  exact ⟨A', c', rfl, hP⟩
def NumsOf (w : World) (A : Option Addr) (RR : List (List Nat)) : Prop := RowsV w A (RR.map nv)
set_option maxRecDepth 100000 in
set_option maxHeartbeats 2000000 in
theorem encodesOfNArr (wl w : World) (base ga gs : Nat) (E : Option Addr) (n k0 : Nat) (LL : List (List Nat)) (hK : Keeps (fun _ => False) wl w) (hb : wl.heap.size ≤ base) (hC : NArrAt w base ga gs none 0 none 0 []) (hl : LL.length = n) (hR : NumsOf wl E LL)
    (hf : LL.flatten.length ≤ 1000) (hn : n ≤ 1000) :
    Calls Tryz.prog 10 #[.iface 38 (.pointer (some ⟨ga, 0, none⟩)), .slice E n k0] w fun e w' => ∃ w1, Keeps (fun _ => False) wl w1 ∧ EncOk w1 (narrB LL) e w' := by
  have HR := Lib.hid hR
  have HL := Lib.hid hl
  have HC := Lib.hid hC
  have HF := Lib.hid hf
  have HK := Lib.hid hK
  clear hR hl hC hf hK
  go_enter Tryz.func10, Tryz.ntmps10
  go_wp2_with fail
  go_loopw [7, 10] (fun _ i wr => ∃ (k : Nat) (O : Option Addr) (ko : Nat) (A : Option Addr) (c : Nat), k ≤ n ∧ i = .int .i64 k ∧ NArrAt wr base ga gs O ko A c (LL.take k) ∧ Keeps (fun _ => False) wl wr) (fun _ i _ => n - (RowKit.intOf i).toNat)
  case atStart => exact ⟨0, none, 0, none, 0, Nat.zero_le _, rfl, HC.out, HK.out⟩
  case round =>
    obtain ⟨k, O, ko, A, c, hk, rfl, hP, hKr⟩ := hrel
    have HP := Lib.hid hP
    have HKr := Lib.hid hKr
    clear hP hKr
    by_cases hlt : k < n
    · obtain ⟨L, hL⟩ : ∃ L, LL[k]? = some L := ⟨_, List.getElem?_eq_getElem (by rw [HL.out]; exact hlt)⟩
      have HT := Lib.hid (show LL.take (k + 1) = LL.take k ++ [L] by rw [List.take_add_one, hL]; rfl)
      obtain ⟨ad, Bv, dv, rfl, hlb, hcell, hRd⟩ := HR.out k (nv L) (by rw [List.getElem?_map, hL]; rfl)
      rw [show (nv L).length = L.length by simp [nv]] at hcell hRd
      have hcr : wr.cell? (ad.add k) = some (.slice Bv L.length dv) := (HKr.out.cell (by rw [blk_add]; exact hlb) (fun h => h)).trans hcell
      have hfk : (LL.take k).flatten.length ≤ 1000 := Nat.le_trans (flat_le LL k) HF.out
      have hLk : L.length ≤ 1000 := by
        have h1 := Nat.le_trans (flat_le LL (k + 1)) HF.out
        rw [HT.out, List.flatten_append, List.length_append] at h1
        simp at h1
        omega
      have HAP := Lib.hid (narrAppend wr base ga gs O ko A c (LL.take k) Bv L.length dv L HP.out (by omega) (by rw [List.length_take]; omega) rfl (hRd.keeps HKr.out (fun _ _ h => h)) (by omega))
      have hme : (method 499 38 (.pointer (some ⟨ga, 0, none⟩)) "Append").run Tryz.prog wr = .ok (86, .pointer (some ⟨ga, 0, none⟩)) wr := mNaApp wr ga _
      clear hRd hcell hL hfk hLk
      go_wp2_with fail
      refine HAP.out.mono ?_
      rintro e w2 ⟨O2, k2, A2, c2, rfl, hP2, K2⟩
      have HP2 := Lib.hid hP2
      have HK2 := Lib.hid K2
      clear hP2 K2
      go_wp2_with fail
      go_roundw
      case rel => exact ⟨k + 1, O2, k2, A2, c2, by omega, by go_num, by rw [HT.out]; exact HP2.out, HKr.out.trans HK2.out (fun i hi h => by omega)⟩
      case measure => (first | (simp [RowKit.intOf]; done) | (simp [RowKit.intOf]; omega))
    · have hkn : k = n := by omega
      subst hkn
      have hfin := HP.out
      rw [List.take_of_length_le (by rw [HL.out]; exact Nat.le_refl _)] at hfin
      have HE := Lib.hid (encodesNArr wr base ga gs O ko A c LL hfin (by rw [HL.out]; exact hn) (by have := HF.out; omega))
      clear hfin
      go_wp2_with fail
      refine HE.out.mono ?_
      rintro e w2 ⟨A2, c2, b2, rfl, h1, h2, h3⟩
      go_wp2_with fail
      go_ret2
      exact ⟨wr, HKr.out, A2, c2, b2, rfl, h1, h2, h3⟩
def NumsNew (w : World) (e : Ending) (w' : World) : Prop := ∃ ga gs, e = .returned (.pointer (some ⟨ga, 0, none⟩)) ∧ Keeps (fun _ => False) w w' ∧ NArrAt w' w.heap.size ga gs none 0 none 0 []
set_option maxRecDepth 100000 in
theorem numArray (w : World) (g : Nat) :
    Calls Tryz.prog 17 #[.pointer (some ⟨g, 0, none⟩)] w fun e w' => e = .returned (.pointer (some ⟨w.heap.size, 0, none⟩)) ∧ w' = w.alloc (.cells #[.slice none 0 0, .iface 53 (.pointer (some ⟨g, 0, none⟩))] 166) := by
  go_enter Tryz.func17, Tryz.ntmps17
  go_wp2_with fail
  go_ret
  exact ⟨rfl, rfl⟩
set_option maxRecDepth 100000 in
theorem numsNew (w : World) :
    Calls Tryz.prog 11 #[] w fun e w' => NumsNew w e w' := by
  have hc := numNew w (Nat.le_refl _)
  have K0 := (Keeps.refl (fun _ => False) w).alloc (.cells #[.slice none 0 0] 54)
  have HA := Lib.hid (fun w g => numArray w g)
  go_enter Tryz.func11, Tryz.ntmps11
  go_wp2_with fail
  refine (HA.out _ w.heap.size).mono ?_
  rintro e w1 ⟨rfl, rfl⟩
  go_wp2_with fail
  go_ret
  have K1 := (Keeps.refl (fun _ => False) (w.alloc (.cells #[.slice none 0 0] 54))).alloc (.cells #[.slice none 0 0, .iface 53 (.pointer (some ⟨w.heap.size, 0, none⟩))] 166)
  refine ⟨w.heap.size + 1, w.heap.size, by simp, K0.trans K1 (fun _ _ h => h), ⟨?_, ⟨rfl, .inl ⟨rfl, rfl⟩⟩, hc.new K1, by omega⟩⟩
  have h := Whole.new (w.alloc (.cells #[.slice none 0 0] 54)) 166 #[.slice none 0 0, .iface 53 (.pointer (some ⟨w.heap.size, 0, none⟩))]
  simp only [World.size_alloc] at h
  exact h
set_option maxRecDepth 100000 in
set_option maxHeartbeats 1000000 in
theorem arNum (w : World) (E : Option Addr) (n k0 : Nat) (LL : List (List Nat)) (hl : LL.length = n) (hR : NumsOf w E LL) (hf : LL.flatten.length ≤ 1000) (hn : n ≤ 1000) :
    Calls Tryz.prog 5 #[.slice E n k0] w fun e w' => ArOk w (narrB LL) e w' := by
  have HS := Lib.hid (numsNew w)
  have HE := Lib.hid (fun w2 ga gs K hC => encodesOfNArr w w2 w.heap.size ga gs E n k0 LL K (Nat.le_refl _) hC hl hR hf hn)
  clear hl hR hf hn
  generalize narrB LL = l at *
  go_enter Tryz.func5, Tryz.ntmps5
  go_wp2_with fail
  refine HS.out.mono ?_
  rintro e w1 ⟨ga, gs, rfl, K1, hC⟩
  have HC := Lib.hid hC
  clear hC
  go_wp2_with fail
  refine (HE.out w1 ga gs K1 HC.out).mono ?_
  rintro e w2 ⟨w3, K3, A, c, b, rfl, hb, ho, K2⟩
  go_wp2_with fail
  go_ret2
  exact ArOk.of K3 ⟨A, c, b, rfl, hb, ho, K2⟩
end Go.Proofs.YtoilbojaenfalaaGreat
