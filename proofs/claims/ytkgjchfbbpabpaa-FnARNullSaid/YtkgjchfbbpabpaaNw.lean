/- Which values are not set, by the column and by the specification. Conditions: sizes far below the machine's. -/
import Derived.Test.YtkgjchfbbpabpaaNv
import Derived.Test.YtkgjchfbbpabpaaSpQ
namespace Go.Proofs.Ytkgjchfbbpabpaa
open Go.RowKit Go.Lib
set_option linter.unusedVariables false
theorem infoBoE : (Try.prog.info? 4).map (fun i => (i.zero, i.size, i.bytes)) = some (some (.bool false), 1, 1) := by kernel_rfl
set_option maxRecDepth 100000 in
theorem u8Rows (w : World) (O : Option Addr) (nO ko : Nat) :
    Calls Try.prog 57 #[.slice O nO ko] w fun e w' => e = .returned (.int .i64 nO) ∧ w = w' := by
  go_enter Try.func57, Try.ntmps57
  go_wp2_with fail
  go_ret
  exact ⟨rfl, rfl⟩
set_option maxRecDepth 100000 in
theorem nulRows (w : World) (O : Option Addr) (nO ko gs : Nat) :
    Calls Try.prog 55 #[.agg #[.slice O nO ko, .iface 79 (.pointer (some ⟨gs, 0, none⟩))]] w fun e w' => e = .returned (.int .i64 nO) ∧ Keeps (fun _ => False) w w' := by
  have HU := Lib.hid (fun w => u8Rows w O nO ko)
  go_enter Try.func55, Try.ntmps55
  go_wp2_with fail
  refine (HU.out _).mono ?_
  rintro e w2 ⟨rfl, rfl⟩
  go_wp2_with fail
  go_ret
  exact ⟨rfl, (Keeps.refl _ _).alloc _⟩
set_option maxRecDepth 100000 in
set_option maxHeartbeats 1000000 in
theorem isElemNull (w : World) (O : Option Addr) (nO ko gs i : Nat) (NB : List UInt8) (b : Bool) (hR : Rd w 1 O nO (Lib.byteCells NB)) (hi : i < nO) (hb : NB[i]? = some (nulBit b)) :
    Calls Try.prog 44 #[.agg #[.slice O nO ko, .iface 79 (.pointer (some ⟨gs, 0, none⟩))], .int .i64 i] w fun e w' => e = .returned (.bool (!b)) ∧ Keeps (fun _ => False) w w' := by
  have K0 := (Keeps.refl (fun _ => False) w).alloc (.cells #[.slice O nO ko, .iface 79 (.pointer (some ⟨gs, 0, none⟩))] 118)
  have HRO := Lib.hid (nulRows (w.alloc (.cells #[.slice O nO ko, .iface 79 (.pointer (some ⟨gs, 0, none⟩))] 118)) O nO ko gs)
  have HW := Lib.hid (Whole.new w 118 #[.slice O nO ko, .iface 79 (.pointer (some ⟨gs, 0, none⟩))])
  have hR0 := hR.keeps K0 (fun _ _ h => h)
  have HR := Lib.hid hR0
  have HK0 := Lib.hid K0
  have hlt : (i : Int) < (nO : Int) := by omega
  have hge : (0 : Int) ≤ (i : Int) := by omega
  clear hR hR0 K0
  cases b with
  | false =>
    have hu : (Lib.byteCells NB)[i]? = some (.int .u8 1) := by rw [Lib.byteCells, List.getElem?_map, hb]; rfl
    clear hb
    go_enter Try.func44, Try.ntmps44
    go_wp2_with fail
    refine HRO.out.mono ?_
    rintro e w2 ⟨rfl, K2⟩
    have hW2 := HW.out.keeps K2 (fun h => h)
    obtain ⟨ad, u, rfl, hbk, hu2, hcell⟩ := (HR.out.keeps K2 (fun _ _ h => h)).at' hi
    rw [hu] at hu2
    injection hu2 with hu2
    subst hu2
    have c0 : w2.cell? ⟨w.heap.size, 0, none⟩ = some (.slice (some ad) nO ko) := hW2.cell 0
    have HK2 := Lib.hid (HK0.out.trans K2 (fun _ _ h => h))
    clear K2 hu hW2
    go_wp2_with fail
    go_ret
    exact ⟨rfl, HK2.out⟩
  | true =>
    have hu : (Lib.byteCells NB)[i]? = some (.int .u8 0) := by rw [Lib.byteCells, List.getElem?_map, hb]; rfl
    clear hb
    go_enter Try.func44, Try.ntmps44
    go_wp2_with fail
    refine HRO.out.mono ?_
    rintro e w2 ⟨rfl, K2⟩
    have hW2 := HW.out.keeps K2 (fun h => h)
    obtain ⟨ad, u, rfl, hbk, hu2, hcell⟩ := (HR.out.keeps K2 (fun _ _ h => h)).at' hi
    rw [hu] at hu2
    injection hu2 with hu2
    subst hu2
    have c0 : w2.cell? ⟨w.heap.size, 0, none⟩ = some (.slice (some ad) nO ko) := hW2.cell 0
    have HK2 := Lib.hid (HK0.out.trans K2 (fun _ _ h => h))
    clear K2 hu hW2
    go_wp2_with fail
    go_ret
    exact ⟨rfl, HK2.out⟩
def NulRes2 (w : World) (base gn gs nO : Nat) (NB : List UInt8) (KS : List (List UInt8)) (e : Ending) (w' : World) : Prop := ∃ O' ko A' c B' d, e = .returned (.tuple #[]) ∧ NulAt w' base gn gs O' ko nO A' c B' d NB KS ∧ Keeps (fun k => base ≤ k) w w'
set_option maxRecDepth 100000 in
set_option maxHeartbeats 4000000 in
theorem nulAppendArr (w : World) (base gn gs b0 : Nat) (E : Option Addr) (n k0 : Nat) (L : List Mb) (hM : NulAt w base gn gs none 0 0 none 0 none 0 [] []) (hl : L.length = n) (hE : w.ownsRow b0 77 2 (.slice E n k0) n (mbC L)) (hx : ∀ p ∈ L, p.2.size ≤ 1000) (hn : n ≤ 1000) :
    Calls Try.prog 43 #[.pointer (some ⟨gn, 0, none⟩), .slice E n k0] w fun e w' => NulRes2 w base gn gs n (nbOfL L) (ksOfL L) e w' := by
  have HL := Lib.hid hl
  have HX := Lib.hid hx
  have HM := Lib.hid hM
  have HE := Lib.hid hE
  have HKS := Lib.hid (fun k => ks_bound L k hx (by omega))
  clear hl hx hM hE
  go_enter Try.func43, Try.ntmps43
  go_wp2_with fail
  go_loopw [5, 8] (fun _ i wr => ∃ (k : Nat) (O : Option Addr) (ko : Nat) (A : Option Addr) (c : Nat) (B : Option Addr) (d : Nat), k ≤ n ∧ i = .int .i64 k ∧ NulAt wr base gn gs O ko k A c B d (nbOfL (L.take k)) (ksOfL (L.take k)) ∧ wr.ownsRow b0 77 2 (.slice E n k0) n (mbC L) ∧ Keeps (fun k => base ≤ k) w wr) (fun _ i _ => n - (RowKit.intOf i).toNat)
  case atStart => exact ⟨0, none, 0, none, 0, none, 0, Nat.zero_le _, rfl, HM.out, HE.out, Keeps.refl _ _⟩
  case round =>
    obtain ⟨k, O, ko, A, c, B, d, hk, rfl, hMk, hEk, hKk⟩ := hrel
    have HMK := Lib.hid hMk
    have HEK := Lib.hid hEk
    have HKK := Lib.hid hKk
    clear hMk hEk hKk
    by_cases hlt : k < n
    · obtain ⟨ad, ⟨x, y⟩, rfl, hb2, hp, hc1, hc2⟩ := Rd.maybe (Rd.own HEK.out) HL.out hlt
      dsimp only at hc1 hc2
      have hc3 : wr.cell? { block := (ad.add (k * 2)).block, off := (ad.add (k * 2)).off + 1 } = some (.string y) := by rw [← Addr.add_add] at hc2; exact hc2
      have hxp := HX.out _ (List.mem_of_getElem? hp)
      dsimp only at hxp
      obtain ⟨st1, st2⟩ := nul_step hp
      have HT1 := Lib.hid st1
      have HT2 := Lib.hid st2
      have Kd := (Keeps.refl (fun _ => False) wr).alloc (.cells #[.bool x, .string y] 77)
      have HMD := Lib.hid (HMK.out.new Kd)
      have HED := Lib.hid (own_keeps HEK.out Kd (fun _ _ h => h))
      have HKD := Lib.hid (HKK.out.trans Kd (S' := fun _ => False) (fun _ _ h => h.elim))
      have HAP := Lib.hid (nulAppend _ base gn gs O ko k A c B d (nbOfL (L.take k)) (ksOfL (L.take k)) x y HMD.out (by omega) (by have := HKS.out k; omega) (by rw [ksOfL, List.length_map, List.length_take]; omega) (by omega))
      clear st1 st2 hp hc2 Kd
      go_wp2_with fail
      refine HAP.out.mono ?_
      rintro e w2 ⟨O2, k2, A2, c2, B2, d2, rfl, hM2, K2⟩
      rw [HT1.out, HT2.out] at hM2
      have HM2 := Lib.hid hM2
      have HE2 := Lib.hid (own_keeps HED.out K2 (fun z hz => by rw [ownBlock_slice] at hz; exact HMD.out.row HED.out (by decide) (by decide) (by decide) (by decide) z hz))
      have HK2 := Lib.hid (HKD.out.trans K2 (fun i hi h => (HMD.out.inS h).1))
      clear hM2 K2
      go_wp2_with fail
      go_roundw
      case rel => exact ⟨k + 1, O2, k2, A2, c2, B2, d2, by omega, by go_num, HM2.out, HE2.out, HK2.out⟩
      case measure => (first | (simp [RowKit.intOf]; done) | (simp [RowKit.intOf]; omega))
    · have hkn : k = n := by omega
      subst hkn
      have hfin := HMK.out
      have eT : L.take k = L := List.take_of_length_le (by rw [HL.out]; exact Nat.le_refl _)
      rw [eT] at hfin
      have HF := Lib.hid hfin
      clear hfin eT
      go_wp2_with fail
      go_end0
      exact ⟨O, ko, A, c, B, d, rfl, HF.out, HKK.out⟩
/-- Which are not set. -/
def offL (L : List Mb) : List Value := L.map fun p => Value.bool (!p.1)
theorem off_step {L : List Mb} {k : Nat} {p : Mb} (h : L[k]? = some p) : offL (L.take k) ++ [.bool (!p.1)] = offL (L.take (k + 1)) := by rw [List.take_add_one, h]; simp [offL]
set_option maxRecDepth 100000 in
set_option maxHeartbeats 4000000 in
theorem arNullsImpl (w : World) (E : Option Addr) (n k0 : Nat) (L : List Mb) (hl : L.length = n) (hR : Rd w 2 E n (mbC L)) (hx : ∀ p ∈ L, p.2.size ≤ 1000) (hn : n ≤ 1000) :
    Calls Try.prog 21 #[.slice E n k0] w fun e w' => OwnRes w 4 (offL L) n e w' := by
  obtain ⟨i0, hi0, hz0, hz1, hz2⟩ := info_parts infoBoE
  have K1 := (Keeps.refl (fun _ => False) w).alloc (.cells #[.slice none 0 0, .slice none 0 0] 82)
  have HN := Lib.hid (fun w1 => nulNew w1 w.heap.size)
  have hM := nulAt_new w
  have K2 := K1.alloc (.cells #[.slice none 0 0, .iface 79 (.pointer (some ⟨w.heap.size, 0, none⟩))] 118)
  have HM := Lib.hid hM
  have HK2 := Lib.hid K2
  have HL := Lib.hid hl
  have HTU := Lib.hid (turnedNB _ E n k0 L hl (hR.keeps K2 (fun _ _ h => h)) (by omega))
  have HAA := Lib.hid (fun w2 E2 k2 b0 (hM2 : NulAt w2 w.heap.size (w.heap.size + 1) w.heap.size none 0 0 none 0 none 0 [] []) hE2 => nulAppendArr w2 w.heap.size (w.heap.size + 1) w.heap.size b0 E2 n k2 L hM2 hl hE2 hx hn)
  clear hl hR hx hM K1 K2
  generalize hNB : nbOfL L = NB at *
  have HNB := Lib.hid hNB
  clear hNB
  go_enter Try.func21, Try.ntmps21
  go_wp2_with fail
  refine (HN.out _).mono ?_
  rintro e w1 ⟨rfl, rfl⟩
  go_wp2_with fail
  refine HTU.out.mono ?_
  rintro e w3 ⟨E3, k3, rfl, hE3, K3⟩
  have HM3 := Lib.hid (HM.out.new K3)
  have HE3 := Lib.hid hE3
  have HK3 := Lib.hid (HK2.out.trans K3 (fun _ _ h => h))
  clear hE3 K3
  go_wp2_with fail
  refine (HAA.out w3 E3 k3 _ HM3.out HE3.out).mono ?_
  rintro e w4 ⟨O, ko, A, c, B, d, rfl, hM4, K4⟩
  have HM4 := Lib.hid hM4
  have HK4 := Lib.hid (HK3.out.trans K4 (S' := fun k => w.heap.size ≤ k) (fun i hi h => by omega))
  clear hM4 K4
  go_wp2_with fail
  go_loopw [4, 5, 14] (fun v _ i wr => ∃ (k : Nat) (A1 : Option Addr) (c1 : Nat), k ≤ n ∧ i = .int .i64 k ∧ v = .slice A1 k c1 ∧ wr.ownsRow w.heap.size 4 1 (.slice A1 k c1) k (offL (L.take k)) ∧ NulAt wr w.heap.size (w.heap.size + 1) w.heap.size O ko n A c B d NB (ksOfL L) ∧ Keeps (fun _ => False) w wr) (fun _ _ i _ => n - (RowKit.intOf i).toNat)
  case atStart => exact ⟨0, none, 0, Nat.zero_le _, rfl, rfl, World.ownsRow_nil _ w.heap.size 4 1, HM4.out, HK4.out⟩
  case round =>
    obtain ⟨k, A1, c1, hk, rfl, rfl, hown, hMr, hKr⟩ := hrel
    have HOW := Lib.hid hown
    have HMR := Lib.hid hMr
    have HKR := Lib.hid hKr
    clear hown hMr hKr
    by_cases hlt : k < n
    · obtain ⟨p, hp⟩ : ∃ p, L[k]? = some p := ⟨_, List.getElem?_eq_getElem (by rw [HL.out]; exact hlt)⟩
      have HT := Lib.hid (off_step hp)
      have hbit : NB[k]? = some (nulBit p.1) := by rw [← HNB.out, nbOfL, List.getElem?_map, hp]; rfl
      have HIE := Lib.hid (isElemNull wr O n ko w.heap.size k NB p.1 (Rd.own HMR.out.off) hlt hbit)
      have e0 : wr.cell? ⟨w.heap.size + 1, 0, none⟩ = some (.slice O n ko) := HMR.out.blk.cell 0
      have e1 : wr.cell? ⟨w.heap.size + 1, 1, none⟩ = some (.iface 79 (.pointer (some ⟨w.heap.size, 0, none⟩))) := HMR.out.blk.cell 1
      have hltb := HMR.out.blk.lt
      clear hp hbit
      generalize p.1 = bb at *
      go_wp2_with fail
      refine HIE.out.mono ?_
      rintro e w5 ⟨rfl, K5⟩
      have K5a := K5.alloc (.cells #[.bool (!bb)] 4)
      have howna := own_keeps HOW.out K5a (fun _ _ h => h)
      have hKa := HKR.out.trans K5a (fun _ _ h => h)
      have hrd := rd_one w5 4 (.bool (!bb))
      have HM5 := Lib.hid (HMR.out.new K5a)
      clear K5
      go_wp2_with (at_builtin
                   refine wpList_append_rd _ rfl (.tmp 17) (.tmp 23) _ rfl w.heap.size 4 i0 _ 1 1 Try.underlying44 hi0 hz0 hz1 hz2 rfl Nat.one_pos A1 c1 k _ rfl howna (some ⟨w5.heap.size, 0, none⟩) 1 1 [.bool (!bb)] rfl hrd (one_val _ rfl) (by simp only [maxLen]; omega) (by omega) hKa.size ?_
                   intro A3 c3 w9 hown3 hg3 hat3)
      have hK3 := hKa.grown hg3 (fun i hi => .inr (howna.lt i (by rw [ownBlock_slice]; exact hi)).1)
      have Kg : Keeps (fun i => ob A1 = some i) _ w9 := (Keeps.refl _ _).grown hg3 (fun k hk => .inl hk)
      have hfar := HM5.out.row howna (by decide) (by decide) (by decide) (by decide)
      have hM9 : NulAt w9 w.heap.size (w.heap.size + 1) w.heap.size O ko n A c B d NB (ksOfL L) := ⟨HM5.out.blk.keeps Kg (fun h => hfar _ h (.inl (.inl rfl))), own_keeps HM5.out.off Kg (fun z hz h => by rw [ownBlock_slice] at hz; exact hfar _ h (.inl (.inr hz))), HM5.out.col.keeps Kg (fun h => hfar _ h (.inr (.inl rfl))) (fun z hz h => hfar _ h (.inr (.inr (.inl hz)))) (fun z hz h => hfar _ h (.inr (.inr (.inr hz)))), HM5.out.apart, HM5.out.lo⟩
      rw [HT.out] at hown3
      have HO3 := Lib.hid hown3
      have HK3' := Lib.hid hK3
      have HM9 := Lib.hid hM9
      clear hown3 hK3 hM9 hfar Kg howna hKa hrd K5a
      go_roundw
      case rel => exact ⟨k + 1, A3, c3, by omega, by go_num, rfl, HO3.out, HM9.out, HK3'.out⟩
      case measure => (first | (simp [RowKit.intOf]; done) | (simp [RowKit.intOf]; omega))
    · have hkn : k = n := by omega
      subst hkn
      have hown := HOW.out
      rw [List.take_of_length_le (by rw [HL.out]; exact Nat.le_refl _)] at hown
      have HF := Lib.hid hown
      clear hown
      go_wp2_with fail
      go_ret
      exact OwnRes.mk HF.out HKR.out
end Go.Proofs.Ytkgjchfbbpabpaa
