/- Maps of strings encoded by a new column. Conditions: sizes far below the machine's. -/
import Derived.Test.YtkgjchfbbpabpaaGreatMe
import Derived.Test.YtkgjchfbbpabpaaGreatEs
import Derived.Test.YtkgjchfbbpabpaaGreatAm
namespace Go.Proofs.YtkgjchfbbpabpaaGreat
open Go.RowKit Go.Lib
set_option linter.unusedVariables false
theorem infoCM : (Tryz.prog.info? 188).map (·.size) = some 3 := by kernel_rfl
theorem infoMMP : (Tryz.prog.info? 64).map (fun i => (i.methods.find? (·.name == "Prepare")).map (fun m => (m.path.toList.length, m.func))) = some (some (0, some (155, false))) := by kernel_rfl
theorem infoMME : (Tryz.prog.info? 64).map (fun i => (i.methods.find? (·.name == "EncodeColumn")).map (fun m => (m.path.toList.length, m.func))) = some (some (0, some (154, false))) := by kernel_rfl
theorem mPrepM {w : World} {gm : Nat} {x y z : Value} (hW : Whole w gm 188 #[x, y, z]) (fuel : Nat) : (method (fuel + 1) 64 (.pointer (some ⟨gm, 0, none⟩)) "Prepare").run Tryz.prog w = .ok (155, .agg #[x, y, z]) w := by
  obtain ⟨i, m, h1, h2, h3, h4⟩ := method_row infoMMP
  exact method_val h1 h2 h3 h4 Tryz.underlying64 (run_loadVar_row (P := Tryz.prog) w gm 188 188 _ (0, 0) _ hW Tryz.underlying188 rfl infoCM)
theorem mEncM {w : World} {gm : Nat} {x y z : Value} (hW : Whole w gm 188 #[x, y, z]) (fuel : Nat) : (method (fuel + 1) 64 (.pointer (some ⟨gm, 0, none⟩)) "EncodeColumn").run Tryz.prog w = .ok (154, .agg #[x, y, z]) w := by
  obtain ⟨i, m, h1, h2, h3, h4⟩ := method_row infoMME
  exact method_val h1 h2 h3 h4 Tryz.underlying64 (run_loadVar_row (P := Tryz.prog) w gm 188 188 _ (0, 0) _ hW Tryz.underlying188 rfl infoCM)
theorem hasPrepM (v : Value) (xT : TypeId) (w : World) : (Instr.typeAssert (.iface 64 v) xT 231 true).run Tryz.prog w = .ok (.tuple #[.iface 64 v, .bool true]) w :=
  run_typeAssert_hasB Tryz.underlying231 (by kernel_rfl) v xT w
set_option maxRecDepth 100000 in
set_option maxHeartbeats 2000000 in
theorem mapPrep (w : World) (x p q : Value) :
    Calls Tryz.prog 155 #[.agg #[x, .iface 84 p, .iface 84 q]] w fun e w' => e = .returned .nilIface ∧ Keeps (fun _ => False) w w' := by
  have hno := noPrep
  go_enter Tryz.func155, Tryz.ntmps155
  go_wp2_with fail
  go_ret
  exact ⟨rfl, (Keeps.refl _ _).alloc _⟩
set_option maxRecDepth 100000 in
set_option maxHeartbeats 2000000 in
theorem mapPrepared (w : World) (gm : Nat) (x p q : Value) (hb : Whole w gm 188 #[x, .iface 84 p, .iface 84 q]) :
    Calls Tryz.prog 61 #[.iface 64 (.pointer (some ⟨gm, 0, none⟩))] w fun e w' => e = .returned (.bool true) ∧ Keeps (fun _ => False) w w' := by
  have HP := Lib.hid (mapPrep w x p q)
  have hyes := hasPrepM
  have hme : (method 454 64 (.pointer (some ⟨gm, 0, none⟩)) "Prepare").run Tryz.prog w = .ok (155, .agg #[x, .iface 84 p, .iface 84 q]) w := mPrepM hb _
  clear hb
  go_enter Tryz.func61, Tryz.ntmps61
  go_wp2_with fail
  refine HP.out.mono ?_
  rintro e w2 ⟨rfl, K⟩
  have HK := Lib.hid K
  clear K
  go_wp2_with fail
  go_ret
  exact ⟨rfl, HK.out⟩
set_option maxRecDepth 100000 in
set_option maxHeartbeats 2000000 in
theorem encodedMap (w : World) (b0 : Nat) (gm gk gv : Nat) (O : Option Addr) (ko nO : Nat) (A : Option Addr) (c : Nat) (B : Option Addr) (d : Nat) (A2 : Option Addr) (c2 : Nat) (B2 : Option Addr) (d2 : Nat) (KS VS : List (List UInt8)) (xs : List Nat) (hM : MapAt w b0 gm gk gv O ko nO A c B d A2 c2 B2 d2 KS VS (xs.map fun x : Nat => Value.int .u64 (x : Int))) (hx : xs.length = nO) (h0 : 0 < nO) (hn : (mpB xs KS VS).length ≤ 1000000) (hnO : nO ≤ 1000) (hk1 : KS.flatten.length ≤ 1000000) (hk2 : KS.length ≤ 100000) (hv1 : VS.flatten.length ≤ 1000000) (hv2 : VS.length ≤ 100000) :
    Calls Tryz.prog 25 #[.func (.method "EncodeColumn") #[.iface 64 (.pointer (some ⟨gm, 0, none⟩))] #[]] w fun e w' => EncRes w (mpB xs KS VS) e w' := by
  have K1 := (Keeps.refl (fun _ => False) w).alloc (.cells #[.slice none 0 0] 182)
  have hM1 := hM.new K1
  have hB1 := bufNew w (Nat.le_refl _)
  have hO := hM.off.lt
  rw [ownBlock_slice] at hO
  have HE := Lib.hid (encMap _ b0 w.heap.size gm gk gv O ko nO A c B d A2 c2 B2 d2 KS VS xs w.heap.size none 0 [] hM1 hB1 hx h0 (fun k hk => (hO k hk).2) (fun k hk => (hM.key.inS hk).2) (fun k hk => (hM.val.inS hk).2) (by rw [List.length_nil, Nat.zero_add]; exact hn) hnO hk1 hk2 hv1 hv2)
  have hme := mEncM hM1.blk
  have HK := Lib.hid K1
  generalize hl : mpB xs KS VS = l at *
  clear hM hM1 hB1 hO K1 hn hnO hk1 hk2 hv1 hv2 hl hx h0
  go_enter Tryz.func25, Tryz.ntmps25
  go_wp2_with fail
  refine HE.out.mono ?_
  rintro e w2 ⟨A2, c2, rfl, hP⟩
  rw [List.nil_append] at hP
  have hb := hP.at'
  have hc1 : w2.cell? ⟨w.heap.size, 0, none⟩ = some (.slice A2 l.length c2) := hb.blk.cell 0
  have HP := Lib.hid hP
  have HOW := Lib.hid hb.own
  clear hP hb
  go_wp2_with fail
  go_ret
  exact ⟨A2, c2, rfl, HOW.out, HK.out.trans HP.out.keeps (fun i hi h => by rcases h with rfl | h; (omega); cases h)⟩
set_option maxRecDepth 100000 in
set_option maxHeartbeats 2000000 in
theorem encodesMap (w : World) (b0 : Nat) (gm gk gv : Nat) (O : Option Addr) (ko nO : Nat) (A : Option Addr) (c : Nat) (B : Option Addr) (d : Nat) (A2 : Option Addr) (c2 : Nat) (B2 : Option Addr) (d2 : Nat) (KS VS : List (List UInt8)) (xs : List Nat) (hM : MapAt w b0 gm gk gv O ko nO A c B d A2 c2 B2 d2 KS VS (xs.map fun x : Nat => Value.int .u64 (x : Int))) (hx : xs.length = nO) (h0 : 0 < nO) (hn : (mpB xs KS VS).length ≤ 1000000) (hnO : nO ≤ 1000) (hk1 : KS.flatten.length ≤ 1000000) (hk2 : KS.length ≤ 100000) (hv1 : VS.flatten.length ≤ 1000000) (hv2 : VS.length ≤ 100000) :
    Calls Tryz.prog 31 #[.iface 64 (.pointer (some ⟨gm, 0, none⟩))] w fun e w' => EncOk w (mpB xs KS VS) e w' := by
  have hlt := hM.blk.lt
  have HE := Lib.hid (fun w2 (K : Keeps (fun _ => False) w w2) => encodedMap w2 b0 gm gk gv O ko nO A c B d A2 c2 B2 d2 KS VS xs (hM.new K) hx h0 hn hnO hk1 hk2 hv1 hv2)
  have HPR := Lib.hid (fun w2 (K : Keeps (fun _ => False) w w2) => mapPrepared w2 gm _ _ _ (hM.new K).blk)
  clear hM hx h0 hn hnO hk1 hk2 hv1 hv2
  generalize hl : mpB xs KS VS = l at *
  clear hl
  go_enter_defers Tryz.func31, Tryz.ntmps31
  go_wp2_with fail
  refine (HPR.out _ (by exact (Keeps.refl (fun _ => False) w).alloc (.cells #[.bool false] 4))).mono ?_
  rintro e w1 ⟨rfl, K1⟩
  have hb1 := (Whole.new w 4 #[.bool false]).keeps K1 (fun h => h)
  have HK1 := Lib.hid (((Keeps.refl (fun _ => False) w).alloc (.cells #[.bool false] 4)).trans K1 (fun _ _ h => h))
  clear K1
  go_wp2_with fail
  refine (HE.out w1 HK1.out).mono ?_
  rintro e w2 ⟨A2, c2, rfl, ho, K2⟩
  have hb2 := hb1.keeps K2 (fun h => h)
  have hw1 := hb1.lt
  have hcb : w2.cell? ⟨w.heap.size, 0, none⟩ = some (.bool false) := hb2.cell 0
  have hfz : w2.frozen? ⟨w.heap.size, 0, none⟩ = false := hb2.frozen 0
  have HO := Lib.hid ho
  have HK2 := Lib.hid K2
  clear ho K2 hb1 hb2
  go_wp2
  refine leaves_cons (f := 60) (args := #[.pointer (some ⟨w.heap.size, 0, none⟩)]) (by simp) (by simp [go_sem]) ?_
  refine (caughtIdle ⟨w.heap.size, 0, none⟩ _).mono ?_
  rintro e u' w'' ⟨rfl, rfl, rfl⟩
  have hb' : (w2.setCell ⟨w.heap.size, 0, none⟩ (.bool true)).cell? ⟨w.heap.size, 0, none⟩ = some (.bool true) := by
    exact World.cell?_setCell_same _ _ _ hcb
  simp [Leaves, settle, results, Tryz.results31, go_sem, hb']
  have hlow := HO.out.lt
  rw [ownBlock_slice] at hlow
  have K5 := (Keeps.refl (fun i => i = w.heap.size) w2).setCell (p := ⟨w.heap.size, 0, none⟩) (.inl rfl) (.bool true)
  exact ⟨A2, c2, w1.heap.size, rfl, by omega, own_keeps HO.out K5 (fun k hk h => by rw [ownBlock_slice] at hk; have := (hlow k hk).1; omega), (HK1.out.trans HK2.out (fun _ _ h => h)).trans K5 (fun i hi h => by omega)⟩

/-- Where rows of pairs end, and what they hold. -/
def ksOf (PP : List (List Pr)) : List (List UInt8) := (keysOf PP.flatten).map sl
def vsOf (PP : List (List Pr)) : List (List UInt8) := (valsOf PP.flatten).map sl
def exOf (PP : List (List Pr)) : List Nat := ends 0 (PP.map List.length)
theorem rows_step {PP : List (List Pr)} {k : Nat} {L : List Pr} (h : PP[k]? = some L) : ksOf (PP.take k) ++ (keysOf L).map sl = ksOf (PP.take (k + 1)) ∧ vsOf (PP.take k) ++ (valsOf L).map sl = vsOf (PP.take (k + 1)) ∧ (exOf (PP.take k)).map (fun x : Nat => Value.int .u64 (x : Int)) ++ [.int .u64 (((ksOf (PP.take k)).length + L.length : Nat) : Int)] = (exOf (PP.take (k + 1))).map (fun x : Nat => Value.int .u64 (x : Int)) := by
  have e : PP.take (k + 1) = PP.take k ++ [L] := by rw [List.take_add_one, h]; rfl
  refine ⟨?_, ?_, ?_⟩
  · rw [e, ksOf, ksOf, keysOf, keysOf, keysOf, List.flatten_append, List.map_append, List.map_append]; simp
  · rw [e, vsOf, vsOf, valsOf, valsOf, valsOf, List.flatten_append, List.map_append, List.map_append]; simp
  · rw [e, exOf, exOf, List.map_append, List.map_cons, List.map_nil, ends_snoc, List.map_append, Nat.zero_add, ksOf, List.length_map, keysOf, List.length_map, List.length_flatten]; rfl
theorem take_flat_sub {PP : List (List Pr)} {k : Nat} {p : Pr} (h : p ∈ (PP.take k).flatten) : p ∈ PP.flatten := by
  obtain ⟨L, hL, hp⟩ := List.mem_flatten.1 h
  exact List.mem_flatten.2 ⟨L, List.mem_of_mem_take hL, hp⟩
theorem sls_len (f : Pr → ByteArray) (L : List Pr) (h : ∀ p ∈ L, (f p).size ≤ 1000) : ((L.map f).map sl).flatten.length ≤ L.length * 1000 := by
  have h2 := flat_map_sl [] (L.map f) L.length (fun x hx => by obtain ⟨p, hp, rfl⟩ := List.mem_map.1 hx; exact h p hp)
  rw [← List.map_take, List.take_of_length_le (Nat.le_refl _), List.nil_append] at h2
  simpa using h2

set_option maxRecDepth 100000 in
set_option maxHeartbeats 4000000 in
theorem arMap (w : World) (E : Option Addr) (n k0 : Nat) (PP : List (List Pr)) (hl : PP.length = n) (hR : RowsP w E PP)
    (hx : ∀ p ∈ PP.flatten, p.1.size ≤ 1000 ∧ p.2.size ≤ 1000) (hf : PP.flatten.length ≤ 1000) (hL : ∀ L ∈ PP, L.length ≤ 1000) (h0 : 0 < n) (hn : n ≤ 1000) (ha : (mpB (exOf PP) (ksOf PP) (vsOf PP)).length ≤ 1000000) :
    Calls Tryz.prog 14 #[.slice E n k0] w fun e w' => ArOk w (mpB (exOf PP) (ksOf PP) (vsOf PP)) e w' := by
  have HS := Lib.hid (mapsNew w)
  have HR := Lib.hid hR
  have HL := Lib.hid hl
  have HX := Lib.hid hx
  have HF := Lib.hid hf
  have HA := Lib.hid ha
  have HLL := Lib.hid hL
  clear hR hl hx hf ha hL
  go_enter Tryz.func14, Tryz.ntmps14
  go_wp2_with fail
  refine HS.out.mono ?_
  rintro e w1 ⟨gm, gk, gv, rfl, K1, hM1⟩
  have HM1 := Lib.hid hM1
  have HK1 := Lib.hid (K1.mono (S' := fun k => w.heap.size ≤ k) (fun _ _ h => h.elim))
  clear hM1 K1
  go_wp2_with fail
  go_loopw [6, 10] (fun _ i wr => ∃ (k : Nat) (O : Option Addr) (ko : Nat) (A : Option Addr) (c : Nat) (B : Option Addr) (d : Nat) (A2 : Option Addr) (c2 : Nat) (B2 : Option Addr) (d2 : Nat), k ≤ n ∧ i = .int .i64 k ∧ MapAt wr w.heap.size gm gk gv O ko k A c B d A2 c2 B2 d2 (ksOf (PP.take k)) (vsOf (PP.take k)) ((exOf (PP.take k)).map fun x : Nat => Value.int .u64 (x : Int)) ∧ Keeps (fun k => w.heap.size ≤ k) w wr) (fun _ i _ => n - (RowKit.intOf i).toNat)
  case atStart => exact ⟨0, none, 0, none, 0, none, 0, none, 0, none, 0, Nat.zero_le _, rfl, HM1.out, HK1.out⟩
  case round =>
    obtain ⟨k, O, ko, A, c, B, d, A2, c2, B2, d2, hk, rfl, hMk, hKk⟩ := hrel
    have HM := Lib.hid hMk
    have HK := Lib.hid hKk
    have HKF := Lib.hid (show Keeps (fun _ => False) w w from Keeps.refl _ _)
    clear hMk hKk
    have hfk : (PP.take k).flatten.length ≤ 1000 := Nat.le_trans (flat_le PP k) HF.out
    have bk1 : (ksOf (PP.take k)).flatten.length ≤ 1000000 := by
      have h1 := sls_len Prod.fst (PP.take k).flatten (fun p hp => (HX.out p (take_flat_sub hp)).1)
      exact Nat.le_trans h1 (by omega)
    have bk2 : (ksOf (PP.take k)).length ≤ 1000 := by rw [ksOf, List.length_map, keysOf, List.length_map]; exact hfk
    have bv1 : (vsOf (PP.take k)).flatten.length ≤ 1000000 := by
      have h1 := sls_len Prod.snd (PP.take k).flatten (fun p hp => (HX.out p (take_flat_sub hp)).2)
      exact Nat.le_trans h1 (by omega)
    have bv2 : (vsOf (PP.take k)).length ≤ 1000 := by rw [vsOf, List.length_map, valsOf, List.length_map]; exact hfk
    by_cases hlt : k < n
    · obtain ⟨L, hL⟩ : ∃ L, PP[k]? = some L := ⟨_, List.getElem?_eq_getElem (by rw [HL.out]; exact hlt)⟩
      obtain ⟨st1, st2, st3⟩ := rows_step hL
      have HT1 := Lib.hid st1
      have HT2 := Lib.hid st2
      have HT3 := Lib.hid st3
      obtain ⟨ad, Bv, dv, rfl, hlb, hcell, hRd⟩ := HR.out k L hL
      have hcr : wr.cell? (ad.add k) = some (.slice Bv L.length dv) := (HK.out.cell (by rw [blk_add]; exact hlb) (by rw [blk_add]; omega)).trans hcell
      have hLk : L.length ≤ 1000 := HLL.out L (List.mem_of_getElem? hL)
      have hBv : 0 < L.length → ∀ z, ob Bv = some z → z < w.heap.size := fun hp z hz => by
        obtain ⟨ad2, e2, hb2, _⟩ := hRd.2 hp
        rw [e2] at hz
        injection hz with hz
        have hz2 : ad2.block = z := hz
        omega
      have hRw : Rd wr 2 Bv L.length (prC L) := by
        rcases Nat.eq_zero_or_pos L.length with hz | hz
        · exact ⟨hRd.1, fun h => by omega⟩
        · exact hRd.keeps HK.out (fun z hz2 h => by have := hBv hz z hz2; omega)
      have hxL : ∀ p ∈ L, p.1.size ≤ 1000 ∧ p.2.size ≤ 1000 := fun p hp => HX.out p (List.mem_flatten.2 ⟨L, List.mem_of_getElem? hL, hp⟩)
      have HTU := Lib.hid (turnedKV wr Bv L.length dv L rfl hRw (by omega))
      have HAP := Lib.hid (fun w2 E2 k2 b0 (hM2 : MapAt w2 w.heap.size gm gk gv O ko k A c B d A2 c2 B2 d2 (ksOf (PP.take k)) (vsOf (PP.take k)) ((exOf (PP.take k)).map fun x : Nat => Value.int .u64 (x : Int))) hE2 => mapAppend w2 w.heap.size gm gk gv O ko k A c B d A2 c2 B2 d2 (ksOf (PP.take k)) (vsOf (PP.take k)) ((exOf (PP.take k)).map fun x : Nat => Value.int .u64 (x : Int)) b0 E2 L.length k2 L hM2 rfl hE2 hxL hLk (by omega) (by omega) (by omega) (by omega) (by omega))
      clear hRd hcell hL hRw hxL st1 st2 st3 bk1 bk2 bv1 bv2 hfk hBv
      generalize L.length = m at *
      go_wp2_with fail
      refine HTU.out.mono ?_
      rintro e w2 ⟨E2, k2, rfl, hE2, K2⟩
      have HM2 := Lib.hid (HM.out.new K2)
      have HE2 := Lib.hid hE2
      have HK2 := Lib.hid (HK.out.trans K2 (S' := fun _ => False) (fun _ _ h => h.elim))
      clear hE2 K2
      go_wp2_with fail
      refine (HAP.out w2 E2 k2 _ HM2.out HE2.out).mono ?_
      rintro e w3 ⟨O3, ko3, A3, c3, B3, d3, A4, c4, B4, d4, rfl, hM3, K3⟩
      rw [HT1.out, HT2.out, HT3.out] at hM3
      have HM3 := Lib.hid hM3
      have HK3 := Lib.hid (HK2.out.trans K3 (fun _ _ h => h))
      clear hM3 K3
      go_wp2_with fail
      go_roundw
      case rel => exact ⟨k + 1, O3, ko3, A3, c3, B3, d3, A4, c4, B4, d4, by omega, by go_num, HM3.out, HK3.out⟩
      case measure => (first | (simp [RowKit.intOf]; done) | (simp [RowKit.intOf]; omega))
    · have hkn : k = n := by omega
      subst hkn
      have hfin := HM.out
      have eT : PP.take k = PP := List.take_of_length_le (by rw [HL.out]; exact Nat.le_refl _)
      rw [eT] at hfin bk1 bk2 bv1 bv2
      have HE := Lib.hid (encodesMap wr w.heap.size gm gk gv O ko k A c B d A2 c2 B2 d2 (ksOf PP) (vsOf PP) (exOf PP) hfin (by rw [exOf, ends_length, List.length_map, HL.out]) h0 HA.out hn bk1 (by omega) bv1 (by omega))
      clear hfin bk1 bk2 bv1 bv2 hfk eT
      go_wp2_with fail
      refine HE.out.mono ?_
      rintro e w2 ⟨A5, c5, b5, rfl, hb, ho, K2⟩
      have hsz := HK.out.size
      go_wp2_with fail
      go_ret2
      exact ⟨A5, c5, rfl, own_base_le ho (by omega), (HK.out.trans K2 (S' := fun _ => False) (fun _ _ h => h.elim)).mono (fun i hi h => by omega)⟩
end Go.Proofs.YtkgjchfbbpabpaaGreat
