/- A nullable column of strings encoded. Conditions: sizes far below the machine's; the column lies below the buffer. -/
import Derived.Test.YtkgjchfbbpabpaaNu
import Derived.Test.YtkgjchfbbpabpaaApp
import Derived.Test.YtkgjchfbbpabpaaMf
namespace Go.Proofs.Ytkgjchfbbpabpaa
open Go.RowKit Go.Lib
set_option linter.unusedVariables false
def U8Enc (w : World) (base bb : Nat) (X : Option Addr) (l : List UInt8) (e : Ending) (w' : World) : Prop := ∃ A' c', e = .returned (.tuple #[]) ∧ Put w w' base bb X A' c' l
set_option maxRecDepth 100000 in
set_option maxHeartbeats 1000000 in
theorem encU8 (w : World) (base bb : Nat) (X : Option Addr) (cx : Nat) (l : List UInt8) (C : Option Addr) (n k0 : Nat) (d : List UInt8) (hB : BufAt w base bb X cx l) (hl : d.length = n) (h0 : 0 < n) (hR : Rd w 1 C n (Lib.byteCells d)) (hn : l.length + n ≤ 70368744177664) :
    Calls Try.prog 93 #[.slice C n k0, .pointer (some ⟨bb, 0, none⟩)] w fun e w' => U8Enc w base bb X (l ++ d) e w' := by
  obtain ⟨i0, hi0, hz0, hz1, hz2⟩ := info_parts infoU8
  have hc : w.cell? ⟨bb, 0, none⟩ = some (.slice X l.length cx) := hB.blk.cell 0
  have hlt := hB.blk.lt
  have hne : ¬ (n : Int) = 0 := by omega
  have hne2 : ¬ n = 0 := by omega
  have HL := Lib.hid hl
  have HB := Lib.hid hB
  have hbb : base ≤ w.heap.size := Nat.le_trans hB.lo (Nat.le_of_lt hlt)
  clear hl hB
  generalize hll : l.length = ll at *
  have HLL := Lib.hid hll
  clear hll
  have hown : w.ownsRow base 5 1 (.slice X ll cx) ll (Lib.byteCells l) := by have := HB.out.own; rw [HLL.out] at this; exact this
  go_enter Try.func93, Try.ntmps93
  go_wp2_with (at_builtin
               refine wpList_append_rd2 _ rfl (.tmp 13) (.tmp 14) _ _ rfl Try.underlying116 base 5 i0 _ 1 1 Try.underlying25 hi0 hz0 hz1 hz2 rfl (by omega) X cx ll (Lib.byteCells l) rfl hown C n k0 (Lib.byteCells d) rfl hR (byteCells_one d) (by simp only [maxLen]; omega) (by omega) hbb ?_
               intro A' c' w1 hown1 hg hat
               have hblk := HB.out.blk.grown hg (Ne.symm HB.out.far)
               have hc1 : w1.cell? ⟨bb, 0, none⟩ = some (.slice X ll cx) := by rw [hblk.cell 0, ← HB.out.blk.cell 0]; exact hc
               have hf1 : w1.frozen? ⟨bb, 0, none⟩ = false := hblk.frozen 0
               have hl1 := hblk.lt)
  go_end0
  rw [← HLL.out] at hown1
  rw [← HLL.out]
  exact ⟨A', c', rfl, put_of HL.out HB.out (Keeps.refl _ _) hown1 hg hat⟩
def NulEnc (w : World) (base bb : Nat) (X : Option Addr) (l : List UInt8) (e : Ending) (w' : World) : Prop := ∃ A' c', e = .returned (.tuple #[]) ∧ Put w w' base bb X A' c' l
set_option maxRecDepth 100000 in
set_option maxHeartbeats 4000000 in
theorem encNul (w : World) (b0 base : Nat) (gn gs : Nat) (O : Option Addr) (ko nO : Nat) (A : Option Addr) (c : Nat) (B : Option Addr) (d : Nat) (NB : List UInt8) (KS : List (List UInt8)) (bb : Nat) (X : Option Addr) (cx : Nat) (l : List UInt8) (hM : NulAt w b0 gn gs O ko nO A c B d NB KS) (hB : BufAt w base bb X cx l) (h0 : 0 < nO)
    (hO : ∀ k, ob O = some k → k < base) (hK : ∀ k, ColS gs A B k → k < base) (hn : l.length + (NB ++ encB KS).length ≤ 1000000) (hk1 : KS.flatten.length ≤ 1000000) (hk2 : KS.length ≤ 100000) :
    Calls Try.prog 90 #[.agg #[.slice O nO ko, .iface 79 (.pointer (some ⟨gs, 0, none⟩))], .pointer (some ⟨bb, 0, none⟩)] w fun e w' => NulEnc w base bb X (l ++ (NB ++ encB KS)) e w' := by
  have hlt := hB.blk.lt
  have hXl : ∀ k, ob X = some k → k < w.heap.size := fun k hk => (hB.row_lo k hk).2
  have hNl : NB.length = nO := by have := hM.off.1; rw [Lib.byteCells_length] at this; omega
  have K0 := (Keeps.refl (fun _ => False) w).alloc (.cells #[.slice O nO ko, .iface 79 (.pointer (some ⟨gs, 0, none⟩))] 118)
  have hbx := Whole.new w 118 #[.slice O nO ko, .iface 79 (.pointer (some ⟨gs, 0, none⟩))]
  have HM := Lib.hid (hM.new K0)
  have hB1 := hB.keeps K0 (fun h => h) (fun _ _ h => h)
  have HU := Lib.hid (encU8 _ base bb X cx l O nO ko NB hB1 hNl h0 (Rd.own HM.out.off) (by rw [List.length_append] at hn; omega))
  have HB := Lib.hid hB1
  have HK := Lib.hid hK
  have HXL := Lib.hid hXl
  have HBX := Lib.hid hbx
  have HK0 := Lib.hid K0
  have HN := Lib.hid (show l.length + NB.length + (encB KS).length ≤ 1000000 by rw [List.length_append] at hn; omega)
  have HKB := Lib.hid (And.intro hk1 hk2)
  clear hM hB hB1 hO hK hXl hbx K0 hn hk1 hk2
  go_enter Try.func90, Try.ntmps90
  go_wp2_with fail
  refine HU.out.mono ?_
  rintro e w3 ⟨X3, c3, rfl, hP3⟩
  have hbx3 := HBX.out.keeps hP3.keeps (by
    rintro (h | h)
    · omega
    · have := HXL.out _ h; omega)
  have hk3 := HM.out.col.put HB.out HK.out hP3
  have HS3 := Lib.hid (encCol w3 b0 base gs bb A c B d KS X3 c3 _ hk3 hP3.at' HK.out (by have := HN.out; rw [List.length_append]; omega) (by have := HKB.out.1; omega) (by have := HKB.out.2; omega))
  have hme : (method 289 79 (.pointer (some ⟨gs, 0, none⟩)) "EncodeColumn").run Try.prog w3 = .ok (96, .agg #[.slice A KS.flatten.length c, .slice B KS.length d]) w3 := mEnc hk3.blk _
  have b1c : w3.cell? ⟨w.heap.size, 1, none⟩ = some (.iface 79 (.pointer (some ⟨gs, 0, none⟩))) := hbx3.cell 1
  have HP3 := Lib.hid hP3
  clear hP3 hbx3 hk3
  generalize KS.flatten.length = F at *
  generalize KS.length = G at *
  go_wp2_with fail
  refine HS3.out.mono ?_
  rintro e w4 ⟨X4, c4, rfl, hP4⟩
  have HP4 := Lib.hid (HP3.out.trans hP4)
  clear hP4
  go_wp2_with fail
  go_end0
  have hfin := HP4.out
  rw [List.append_assoc] at hfin
  exact ⟨X4, c4, rfl, ⟨hfin.at', (HK0.out.mono (S' := fun k => k = bb ∨ ob X = some k) (fun _ _ h => h.elim)).trans hfin.keeps (fun _ _ h => h), hfin.row.imp id fun h k hk => Nat.le_trans HK0.out.size (h k hk)⟩⟩
theorem infoCNs : (Try.prog.info? 118).map (·.size) = some 2 := by kernel_rfl
theorem infoMNP : (Try.prog.info? 78).map (fun i => (i.methods.find? (·.name == "Prepare")).map (fun m => (m.path.toList.length, m.func))) = some (some (0, some (91, true))) := by kernel_rfl
theorem infoMNA : (Try.prog.info? 78).map (fun i => (i.methods.find? (·.name == "Append")).map (fun m => (m.path.toList.length, m.func))) = some (some (0, some (54, true))) := by kernel_rfl
theorem infoMNE : (Try.prog.info? 78).map (fun i => (i.methods.find? (·.name == "EncodeColumn")).map (fun m => (m.path.toList.length, m.func))) = some (some (0, some (90, false))) := by kernel_rfl
theorem mPrepN (w : World) (gn : Nat) (fuel : Nat) : (method (fuel + 1) 78 (.pointer (some ⟨gn, 0, none⟩)) "Prepare").run Try.prog w = .ok (91, .pointer (some ⟨gn, 0, none⟩)) w := by
  obtain ⟨i, m, h1, h2, h3, h4⟩ := method_row infoMNP
  exact method_ptr h1 h2 h3 h4 Try.underlying78
theorem mAppN (w : World) (gn : Nat) (fuel : Nat) : (method (fuel + 1) 78 (.pointer (some ⟨gn, 0, none⟩)) "Append").run Try.prog w = .ok (54, .pointer (some ⟨gn, 0, none⟩)) w := by
  obtain ⟨i, m, h1, h2, h3, h4⟩ := method_row infoMNA
  exact method_ptr h1 h2 h3 h4 Try.underlying78
theorem mEncN {w : World} {gn : Nat} {x y : Value} (hW : Whole w gn 118 #[x, y]) (fuel : Nat) : (method (fuel + 1) 78 (.pointer (some ⟨gn, 0, none⟩)) "EncodeColumn").run Try.prog w = .ok (90, .agg #[x, y]) w := by
  obtain ⟨i, m, h1, h2, h3, h4⟩ := method_row infoMNE
  exact method_val h1 h2 h3 h4 Try.underlying78 (run_loadVar_row (P := Try.prog) w gn 118 118 _ (0, 0) _ hW Try.underlying118 rfl infoCNs)
theorem hasPrepN (v : Value) (xT : TypeId) (w : World) : (Instr.typeAssert (.iface 78 v) xT 123 true).run Try.prog w = .ok (.tuple #[.iface 78 v, .bool true]) w :=
  run_typeAssert_hasB Try.underlying123 (by kernel_rfl) v xT w
set_option maxRecDepth 100000 in
set_option maxHeartbeats 2000000 in
theorem nulPrep (w : World) (gn gs : Nat) (x : Value) (hb : Whole w gn 118 #[x, .iface 79 (.pointer (some ⟨gs, 0, none⟩))]) :
    Calls Try.prog 91 #[.pointer (some ⟨gn, 0, none⟩)] w fun e w' => e = .returned .nilIface ∧ Keeps (fun _ => False) w w' := by
  have hlt := hb.lt
  have hno := noPrep
  have c1 : w.cell? ⟨gn, 1, none⟩ = some (.iface 79 (.pointer (some ⟨gs, 0, none⟩))) := hb.cell 1
  go_enter Try.func91, Try.ntmps91
  go_wp2_with fail
  go_ret
  exact ⟨rfl, Keeps.refl _ _⟩
set_option maxRecDepth 100000 in
set_option maxHeartbeats 2000000 in
theorem nulPrepared (w : World) (gn gs : Nat) (x : Value) (hb : Whole w gn 118 #[x, .iface 79 (.pointer (some ⟨gs, 0, none⟩))]) :
    Calls Try.prog 52 #[.iface 78 (.pointer (some ⟨gn, 0, none⟩))] w fun e w' => e = .returned (.bool true) ∧ Keeps (fun _ => False) w w' := by
  have HP := Lib.hid (nulPrep w gn gs x hb)
  have hyes := hasPrepN
  have hme : (method 289 78 (.pointer (some ⟨gn, 0, none⟩)) "Prepare").run Try.prog w = .ok (91, .pointer (some ⟨gn, 0, none⟩)) w := mPrepN w gn _
  clear hb
  go_enter Try.func52, Try.ntmps52
  go_wp2_with fail
  refine HP.out.mono ?_
  rintro e w2 ⟨rfl, K⟩
  have HK := Lib.hid K
  clear K
  go_wp2_with fail
  go_ret
  exact ⟨rfl, HK.out⟩
set_option maxRecDepth 100000 in
set_option maxHeartbeats 2000000 in
theorem encodedNul (w : World) (b0 : Nat) (gn gs : Nat) (O : Option Addr) (ko nO : Nat) (A : Option Addr) (c : Nat) (B : Option Addr) (d : Nat) (NB : List UInt8) (KS : List (List UInt8)) (hM : NulAt w b0 gn gs O ko nO A c B d NB KS) (hn : (NB ++ encB KS).length ≤ 1000000) (h0 : 0 < nO) (hk1 : KS.flatten.length ≤ 1000000) (hk2 : KS.length ≤ 100000) :
    Calls Try.prog 53 #[.func (.method "EncodeColumn") #[.iface 78 (.pointer (some ⟨gn, 0, none⟩))] #[]] w fun e w' => EncRes w (NB ++ encB KS) e w' := by
  have K1 := (Keeps.refl (fun _ => False) w).alloc (.cells #[.slice none 0 0] 129)
  have hM1 := hM.new K1
  have hB1 := bufNew w (Nat.le_refl _)
  have HE := Lib.hid (encNul _ b0 w.heap.size gn gs O ko nO A c B d NB KS w.heap.size none 0 [] hM1 hB1 h0 (fun k hk => (hM.inO hk).2) (fun k hk => (hM.col.inS hk).2) (by rw [List.length_nil, Nat.zero_add]; exact hn) hk1 hk2)
  have hme := mEncN hM1.blk
  have HK := Lib.hid K1
  generalize hl : NB ++ encB KS = l at *
  clear hM hM1 hB1 K1 hn hk1 hk2 hl h0
  go_enter Try.func53, Try.ntmps53
  go_wp2_with fail
  refine HE.out.mono ?_
  rintro e w2 ⟨A2, c2, rfl, hP⟩
  rw [List.nil_append] at hP
  have hb := hP.at'
  have hc1 : w2.cell? ⟨w.heap.size, 0, none⟩ = some (.slice A2 l.length c2) := hb.blk.cell 0
  have HP := Lib.hid hP
  have HOW := Lib.hid hb.own
  clear hP hb
  go_wp2_with fail
  go_ret
  exact ⟨A2, c2, rfl, HOW.out, HK.out.trans HP.out.keeps (fun i hi h => by rcases h with rfl | h; (omega); cases h)⟩
set_option maxRecDepth 100000 in
set_option maxHeartbeats 2000000 in
theorem encodesNul (w : World) (b0 : Nat) (gn gs : Nat) (O : Option Addr) (ko nO : Nat) (A : Option Addr) (c : Nat) (B : Option Addr) (d : Nat) (NB : List UInt8) (KS : List (List UInt8)) (hM : NulAt w b0 gn gs O ko nO A c B d NB KS) (hn : (NB ++ encB KS).length ≤ 1000000) (h0 : 0 < nO) (hk1 : KS.flatten.length ≤ 1000000) (hk2 : KS.length ≤ 100000) :
    Calls Try.prog 35 #[.iface 78 (.pointer (some ⟨gn, 0, none⟩))] w fun e w' => EncOk w (NB ++ encB KS) e w' := by
  have hlt := hM.blk.lt
  have HE := Lib.hid (fun w2 (K : Keeps (fun _ => False) w w2) => encodedNul w2 b0 gn gs O ko nO A c B d NB KS (hM.new K) hn h0 hk1 hk2)
  have HPR := Lib.hid (fun w2 (K : Keeps (fun _ => False) w w2) => nulPrepared w2 gn gs _ (hM.new K).blk)
  clear hM h0 hn hk1 hk2
  generalize hl : NB ++ encB KS = l at *
  clear hl
  go_enter_defers Try.func35, Try.ntmps35
  go_wp2_with fail
  refine (HPR.out _ (by exact (Keeps.refl (fun _ => False) w).alloc (.cells #[.bool false] 4))).mono ?_
  rintro e w1 ⟨rfl, K1⟩
  have hb1 := (Whole.new w 4 #[.bool false]).keeps K1 (fun h => h)
  have HK1 := Lib.hid (((Keeps.refl (fun _ => False) w).alloc (.cells #[.bool false] 4)).trans K1 (fun _ _ h => h))
  clear K1
  go_wp2_with fail
  refine (HE.out w1 HK1.out).mono ?_
  rintro e w2 ⟨A2, c2, rfl, ho, K2⟩
  have hb2 := hb1.keeps K2 (fun h => h)
  have hw1 := hb1.lt
  have hcb : w2.cell? ⟨w.heap.size, 0, none⟩ = some (.bool false) := hb2.cell 0
  have hfz : w2.frozen? ⟨w.heap.size, 0, none⟩ = false := hb2.frozen 0
  have HO := Lib.hid ho
  have HK2 := Lib.hid K2
  clear ho K2 hb1 hb2
  go_wp2
  refine leaves_cons (f := 51) (args := #[.pointer (some ⟨w.heap.size, 0, none⟩)]) (by simp) (by simp [go_sem]) ?_
  refine (caughtIdle ⟨w.heap.size, 0, none⟩ _).mono ?_
  rintro e u' w'' ⟨rfl, rfl, rfl⟩
  have hb' : (w2.setCell ⟨w.heap.size, 0, none⟩ (.bool true)).cell? ⟨w.heap.size, 0, none⟩ = some (.bool true) := by
    exact World.cell?_setCell_same _ _ _ hcb
  simp [Leaves, settle, results, Try.results35, go_sem, hb']
  have hlow := HO.out.lt
  rw [ownBlock_slice] at hlow
  have K5 := (Keeps.refl (fun i => i = w.heap.size) w2).setCell (p := ⟨w.heap.size, 0, none⟩) (.inl rfl) (.bool true)
  exact ⟨A2, c2, w1.heap.size, rfl, by omega, own_keeps HO.out K5 (fun k hk h => by rw [ownBlock_slice] at hk; have := (hlow k hk).1; omega), (HK1.out.trans HK2.out (fun _ _ h => h)).trans K5 (fun i hi h => by omega)⟩

/-- The mask, and the texts. -/
def nbOfL (L : List Mb) : List UInt8 := L.map fun p => nulBit p.1
def ksOfL (L : List Mb) : List (List UInt8) := L.map fun p => sl p.2
theorem nul_step {L : List Mb} {k : Nat} {p : Mb} (h : L[k]? = some p) : nbOfL (L.take k) ++ [nulBit p.1] = nbOfL (L.take (k + 1)) ∧ ksOfL (L.take k) ++ [sl p.2] = ksOfL (L.take (k + 1)) := by
  constructor
  · rw [List.take_add_one, h]; simp [nbOfL]
  · rw [List.take_add_one, h]; simp [ksOfL]
theorem ks_bound (L : List Mb) (k : Nat) (h : ∀ p ∈ L, p.2.size ≤ 1000) (hl : L.length ≤ 1000) : (ksOfL (L.take k)).flatten.length ≤ 1000000 := by
  have h2 := flat_map_sl [] (L.map Prod.snd) k (fun x hx => by obtain ⟨p, hp, rfl⟩ := List.mem_map.1 hx; exact h p hp)
  have h3 := flat_map_sl [] (L.map Prod.snd) L.length (fun x hx => by obtain ⟨p, hp, rfl⟩ := List.mem_map.1 hx; exact h p hp)
  rw [← List.map_take, List.map_map, List.nil_append] at h2 h3
  have e : ksOfL (L.take k) = (L.take k).map (sl ∘ Prod.snd) := rfl
  rw [e]
  simp only [List.flatten_nil, List.length_nil, Nat.zero_add] at h2 h3
  rcases Nat.lt_or_ge k 1001 with hk | hk
  · exact Nat.le_trans h2 (by omega)
  · rw [List.take_of_length_le (by omega)]
    rw [List.take_of_length_le (Nat.le_refl _)] at h3
    exact Nat.le_trans h3 (by omega)

set_option maxRecDepth 100000 in
set_option maxHeartbeats 4000000 in
theorem encodesOfNul (wl w : World) (base gn gs b0 : Nat) (E : Option Addr) (n k0 : Nat) (L : List Mb) (hK : Keeps (fun _ => False) wl w) (hb : wl.heap.size ≤ base) (hM : NulAt w base gn gs none 0 0 none 0 none 0 [] []) (hl : L.length = n) (hE : w.ownsRow b0 77 2 (.slice E n k0) n (mbC L))
    (hx : ∀ p ∈ L, p.2.size ≤ 1000) (h0 : 0 < n) (hn : n ≤ 1000) (ha : (nbOfL L ++ encB (ksOfL L)).length ≤ 1000000) :
    Calls Try.prog 39 #[.iface 78 (.pointer (some ⟨gn, 0, none⟩)), .slice E n k0] w fun e w' => ∃ w1, Keeps (fun _ => False) wl w1 ∧ EncOk w1 (nbOfL L ++ encB (ksOfL L)) e w' := by
  have HL := Lib.hid hl
  have HX := Lib.hid hx
  have HM := Lib.hid hM
  have HA := Lib.hid ha
  have HE := Lib.hid hE
  have HK := Lib.hid hK
  have HKS := Lib.hid (fun k => ks_bound L k hx (by omega))
  clear hl hx hM ha hK hE
  generalize hlb : nbOfL L ++ encB (ksOfL L) = lb at *
  have HLB := Lib.hid hlb
  clear hlb
  go_enter Try.func39, Try.ntmps39
  go_wp2_with fail
  go_loopw [7, 10] (fun _ i wr => ∃ (k : Nat) (O : Option Addr) (ko : Nat) (A : Option Addr) (c : Nat) (B : Option Addr) (d : Nat), k ≤ n ∧ i = .int .i64 k ∧ NulAt wr base gn gs O ko k A c B d (nbOfL (L.take k)) (ksOfL (L.take k)) ∧ wr.ownsRow b0 77 2 (.slice E n k0) n (mbC L) ∧ Keeps (fun _ => False) wl wr) (fun _ i _ => n - (RowKit.intOf i).toNat)
  case atStart => exact ⟨0, none, 0, none, 0, none, 0, Nat.zero_le _, rfl, HM.out, HE.out, HK.out⟩
  case round =>
    obtain ⟨k, O, ko, A, c, B, d, hk, rfl, hMk, hEk, hKk⟩ := hrel
    have HMK := Lib.hid hMk
    have HEK := Lib.hid hEk
    have HKK := Lib.hid hKk
    clear hMk hEk hKk
    by_cases hlt : k < n
    · obtain ⟨ad, ⟨x, y⟩, rfl, hb2, hp, hc1, hc2⟩ := Rd.maybe (Rd.own HEK.out) HL.out hlt
      dsimp only at hc1 hc2
      have hc3 : wr.cell? { block := (ad.add (k * 2)).block, off := (ad.add (k * 2)).off + 1 } = some (.string y) := by rw [← Addr.add_add] at hc2; exact hc2
      have hxp := HX.out _ (List.mem_of_getElem? hp)
      dsimp only at hxp
      obtain ⟨st1, st2⟩ := nul_step hp
      have HT1 := Lib.hid st1
      have HT2 := Lib.hid st2
      have Kd := (Keeps.refl (fun _ => False) wr).alloc (.cells #[.bool x, .string y] 77)
      have HMD := Lib.hid (HMK.out.new Kd)
      have HED := Lib.hid (own_keeps HEK.out Kd (fun _ _ h => h))
      have HKD := Lib.hid (HKK.out.trans Kd (fun _ _ h => h))
      have HAP := Lib.hid (nulAppend _ base gn gs O ko k A c B d (nbOfL (L.take k)) (ksOfL (L.take k)) x y HMD.out (by omega) (by have := HKS.out k; omega) (by rw [ksOfL, List.length_map, List.length_take]; omega) (by omega))
      have hme : (method 289 78 (.pointer (some ⟨gn, 0, none⟩)) "Append").run Try.prog (wr.alloc (.cells #[.bool x, .string y] 77)) = .ok (54, .pointer (some ⟨gn, 0, none⟩)) (wr.alloc (.cells #[.bool x, .string y] 77)) := mAppN _ gn _
      clear st1 st2 hp hc2 Kd
      go_wp2_with fail
      refine HAP.out.mono ?_
      rintro e w2 ⟨O2, k2, A2, c2, B2, d2, rfl, hM2, K2⟩
      rw [HT1.out, HT2.out] at hM2
      have HM2 := Lib.hid hM2
      have HE2 := Lib.hid (own_keeps HED.out K2 (fun z hz => by rw [ownBlock_slice] at hz; exact HMD.out.row HED.out (by decide) (by decide) (by decide) (by decide) z hz))
      have HK2 := Lib.hid (HKD.out.trans K2 (fun i hi h => by have := (HMD.out.inS h).1; omega))
      clear hM2 K2
      go_wp2_with fail
      go_roundw
      case rel => exact ⟨k + 1, O2, k2, A2, c2, B2, d2, by omega, by go_num, HM2.out, HE2.out, HK2.out⟩
      case measure => (first | (simp [RowKit.intOf]; done) | (simp [RowKit.intOf]; omega))
    · have hkn : k = n := by omega
      subst hkn
      have hfin := HMK.out
      have eT : L.take k = L := List.take_of_length_le (by rw [HL.out]; exact Nat.le_refl _)
      have hks := HKS.out k
      rw [eT] at hfin hks
      have HEN := Lib.hid (encodesNul wr base gn gs O ko k A c B d (nbOfL L) (ksOfL L) hfin (by rw [HLB.out]; exact HA.out) h0 hks (by rw [ksOfL, List.length_map, HL.out]; omega))
      rw [HLB.out] at HEN
      clear hfin hks
      go_wp2_with fail
      refine HEN.out.mono ?_
      rintro e w2 ⟨A2, c2, b2, rfl, h1, h2, h3⟩
      go_wp2_with fail
      go_ret2
      exact ⟨wr, HKK.out, A2, c2, b2, rfl, h1, h2, h3⟩

set_option maxRecDepth 100000 in
set_option maxHeartbeats 2000000 in
theorem arNull (w : World) (E : Option Addr) (n k0 : Nat) (L : List Mb) (hl : L.length = n) (hR : Rd w 2 E n (mbC L)) (hx : ∀ p ∈ L, p.2.size ≤ 1000) (h0 : 0 < n) (hn : n ≤ 1000) (ha : (nbOfL L ++ encB (ksOfL L)).length ≤ 1000000) :
    Calls Try.prog 20 #[.slice E n k0] w fun e w' => ArOk w (nbOfL L ++ encB (ksOfL L)) e w' := by
  have K1 := (Keeps.refl (fun _ => False) w).alloc (.cells #[.slice none 0 0, .slice none 0 0] 82)
  have HN := Lib.hid (fun w1 => nulNew w1 w.heap.size)
  have hM := nulAt_new w
  have K2 := K1.alloc (.cells #[.slice none 0 0, .iface 79 (.pointer (some ⟨w.heap.size, 0, none⟩))] 118)
  have HM := Lib.hid hM
  have HK2 := Lib.hid K2
  have HTU := Lib.hid (turnedNB _ E n k0 L hl (hR.keeps K2 (fun _ _ h => h)) (by omega))
  have HEO := Lib.hid (fun w2 E2 k2 b0 (K : Keeps (fun _ => False) w w2) (hM2 : NulAt w2 w.heap.size (w.heap.size + 1) w.heap.size none 0 0 none 0 none 0 [] []) hE2 => encodesOfNul w w2 w.heap.size (w.heap.size + 1) w.heap.size b0 E2 n k2 L K (Nat.le_refl _) hM2 hl hE2 hx h0 hn ha)
  clear hl hR hx h0 hn ha hM K1 K2
  generalize nbOfL L ++ encB (ksOfL L) = l at *
  go_enter Try.func20, Try.ntmps20
  go_wp2_with fail
  refine (HN.out _).mono ?_
  rintro e w1 ⟨rfl, rfl⟩
  go_wp2_with fail
  refine HTU.out.mono ?_
  rintro e w3 ⟨E3, k3, rfl, hE3, K3⟩
  have HM3 := Lib.hid (HM.out.new K3)
  have HE3 := Lib.hid hE3
  have HK3 := Lib.hid (HK2.out.trans K3 (fun _ _ h => h))
  clear hE3 K3
  go_wp2_with fail
  refine (HEO.out w3 E3 k3 _ HK3.out HM3.out HE3.out).mono ?_
  rintro e w4 ⟨w5, K5, A, c, b, rfl, hb, ho, K4⟩
  go_wp2_with fail
  go_ret2
  exact ArOk.of K5 ⟨A, c, b, rfl, hb, ho, K4⟩
end Go.Proofs.Ytkgjchfbbpabpaa
