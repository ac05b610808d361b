/- A column of maps of strings: a row of pairs appended. Conditions: sizes far below the machine's. -/
import Derived.Test.YtkgjchfbbpabpaaGreatMq
namespace Go.Proofs.YtkgjchfbbpabpaaGreat
open Go.RowKit Go.Lib
set_option linter.unusedVariables false
def MapRes (w : World) (base gm gk gv nO : Nat) (KS VS : List (List UInt8)) (OV : List Value) (e : Ending) (w' : World) : Prop := ∃ O ko A c B d A2 c2 B2 d2, e = .returned (.tuple #[]) ∧ MapAt w' base gm gk gv O ko nO A c B d A2 c2 B2 d2 KS VS OV ∧ Keeps (fun k => base ≤ k) w w'
theorem sl_take {L : List Pr} {k : Nat} {p : Pr} (f : Pr → ByteArray) (KS : List (List UInt8)) (h : L[k]? = some p) : KS ++ ((L.take k).map f).map sl ++ [sl (f p)] = KS ++ ((L.take (k + 1)).map f).map sl := by
  rw [List.take_add_one, h]; simp
theorem sls_le (f : Pr → ByteArray) (KS : List (List UInt8)) (L : List Pr) (k : Nat) (h : ∀ p ∈ L, (f p).size ≤ 1000) : (KS ++ ((L.take k).map f).map sl).flatten.length ≤ KS.flatten.length + L.length * 1000 := by
  have h1 := flat_map_sl KS (L.map f) k (fun x hx => by obtain ⟨p, hp, rfl⟩ := List.mem_map.1 hx; exact h p hp)
  rw [← List.map_take] at h1
  rcases Nat.lt_or_ge k L.length with hk | hk
  · exact Nat.le_trans h1 (Nat.add_le_add_left (Nat.mul_le_mul_right _ (by omega)) _)
  · have h2 := flat_map_sl KS (L.map f) L.length (fun x hx => by obtain ⟨p, hp, rfl⟩ := List.mem_map.1 hx; exact h p hp)
    rw [← List.map_take] at h2
    rw [List.take_of_length_le hk]
    rwa [List.take_of_length_le (Nat.le_refl _)] at h2

set_option maxRecDepth 100000 in
set_option maxHeartbeats 4000000 in
theorem mapAppend (w : World) (base gm gk gv : Nat) (O : Option Addr) (ko nO : Nat) (A : Option Addr) (c : Nat) (B : Option Addr) (d : Nat) (A2 : Option Addr) (c2 : Nat) (B2 : Option Addr) (d2 : Nat) (KS VS : List (List UInt8)) (OV : List Value) (b0 : Nat) (E : Option Addr) (n k0 : Nat) (L : List Pr) (hM : MapAt w base gm gk gv O ko nO A c B d A2 c2 B2 d2 KS VS OV) (hl : L.length = n) (hE : w.ownsRow b0 69 2 (.slice E n k0) n (prC L)) (hx : ∀ p ∈ L, p.1.size ≤ 1000 ∧ p.2.size ≤ 1000) (hn : n ≤ 1000) (hk1 : KS.flatten.length ≤ 10000000) (hk2 : KS.length ≤ 100000) (hv1 : VS.flatten.length ≤ 10000000) (hv2 : VS.length ≤ 100000) (hO : nO ≤ 10000) :
    Calls Tryz.prog 28 #[.pointer (some ⟨gm, 0, none⟩), .slice E n k0] w fun e w' => MapRes w base gm gk gv (nO + 1) (KS ++ (keysOf L).map sl) (VS ++ (valsOf L).map sl) (OV ++ [.int .u64 ((KS.length + n : Nat) : Int)]) e w' := by
  have HM := Lib.hid hM
  have HL := Lib.hid hl
  have HE := Lib.hid hE
  have HX1 := Lib.hid (fun k => sls_le Prod.fst KS L k (fun p hp => (hx p hp).1))
  have HX2 := Lib.hid (fun k => sls_le Prod.snd VS L k (fun p hp => (hx p hp).2))
  have HX := Lib.hid hx
  have HB1 := Lib.hid hk1
  have HB2 := Lib.hid hk2
  have HB3 := Lib.hid hv1
  have HB4 := Lib.hid hv2
  have hme := mColApM
  clear hM hl hE hx hk1 hk2 hv1 hv2
  go_enter Tryz.func28, Tryz.ntmps28
  go_wp2_with fail
  go_loopw [8] (fun i wr => ∃ (k : Nat) (A : Option Addr) (c : Nat) (B : Option Addr) (d : Nat) (A2 : Option Addr) (c2 : Nat) (B2 : Option Addr) (d2 : Nat), k ≤ n ∧ i = .int .i64 k ∧ MapAt wr base gm gk gv O ko nO A c B d A2 c2 B2 d2 (KS ++ ((L.take k).map Prod.fst).map sl) (VS ++ ((L.take k).map Prod.snd).map sl) OV ∧ wr.ownsRow b0 69 2 (.slice E n k0) n (prC L) ∧ Keeps (fun k => base ≤ k) w wr) (fun i _ => n - (RowKit.intOf i).toNat)
  case atStart => exact ⟨0, A, c, B, d, A2, c2, B2, d2, Nat.zero_le _, rfl, by simpa using HM.out, HE.out, Keeps.refl _ _⟩
  case round =>
    obtain ⟨k, A, c, B, d, A2, c2, B2, d2, hk, rfl, hMk, hEk, hKk⟩ := hrel
    have HMK := Lib.hid hMk
    have HEK := Lib.hid hEk
    have HKK := Lib.hid hKk
    clear hMk hEk hKk
    by_cases hlt : k < n
    · obtain ⟨ad, ⟨x, y⟩, rfl, hb, hp, hc1, hc2⟩ := Rd.pair (Rd.own HEK.out) HL.out hlt
      dsimp only at hc1 hc2
      have hc3 : wr.cell? { block := (ad.add (k * 2)).block, off := (ad.add (k * 2)).off + 1 } = some (.string y) := by rw [← Addr.add_add] at hc2; exact hc2
      have hx12 := HX.out _ (List.mem_of_getElem? hp)
      dsimp only at hx12
      have hsk := sl_take Prod.fst KS hp
      have hsv := sl_take Prod.snd VS hp
      dsimp only at hsk hsv
      have HSK := Lib.hid hsk
      have HSV := Lib.hid hsv
      have Kd := (Keeps.refl (fun _ => False) wr).alloc (.cells #[.string x, .string y] 69)
      have hMd := HMK.out.new Kd.drew
      have hEd := own_keeps HEK.out Kd.drew (fun _ _ h => h)
      have hWd : Whole (wr.alloc (.cells #[.string x, .string y] 69)).drew wr.heap.size 69 #[.string x, .string y] := (Whole.new wr 69 #[.string x, .string y]).drew
      have HA1 := Lib.hid (colAppend (wr.alloc (.cells #[.string x, .string y] 69)).drew base gk A c B d _ x hMd.key (by have h1 := HX1.out k; have h2 := HB1.out; rw [HL.out] at h1; omega) (by have := HB2.out; rw [List.length_append, List.length_map, List.length_map, List.length_take]; omega) (by omega))
      have s0 : (fun w' => w'.cell? ⟨gm, 1, none⟩ = some (.iface 84 (.pointer (some ⟨gk, 0, none⟩))) ∧ w'.cell? ⟨wr.heap.size, 0, none⟩ = some (.string x)) (wr.alloc (.cells #[.string x, .string y] 69)).drew := ⟨hMd.blk.cell 1, hWd.cell 0⟩
      have HMD := Lib.hid hMd
      have HED := Lib.hid hEd
      have HWD := Lib.hid hWd
      have HKD := Lib.hid ((HKK.out.trans Kd.drew (S' := fun _ => False) (fun _ _ h => h.elim)) : Keeps (fun k => base ≤ k) w (wr.alloc (.cells #[.string x, .string y] 69)).drew)
      clear hsk hsv hMd hEd hWd Kd hc2 hp
      go_wp2_with fail
      go_region_held3 (fun w' => w'.cell? ⟨gm, 1, none⟩ = some (.iface 84 (.pointer (some ⟨gk, 0, none⟩))) ∧ w'.cell? ⟨wr.heap.size, 0, none⟩ = some (.string x)) (first | exact s0 | exact s1) (
        (go_simp; go_at_call 160; refine HA1.out.mono ?_; rintro e w3 ⟨A', c', B', d', rfl, hP⟩; have hM3 := HMD.out.stepKey hP; have hE3 := hP.row HMD.out.key HED.out (by decide) (by decide) (by decide); have hW3 := hP.box HMD.out.key HWD.out (by decide) (by decide) (by decide); have hK3 := HKD.out.trans (hP.up HMD.out.key) (fun _ _ h => h); have s1 : (fun w' => w'.cell? ⟨gm, 1, none⟩ = some (.iface 84 (.pointer (some ⟨gk, 0, none⟩))) ∧ w'.cell? ⟨wr.heap.size, 0, none⟩ = some (.string x)) w3 := ⟨hM3.blk.cell 1, hW3.cell 0⟩))
      all_goals
        rw [HSK.out] at hM3
        have hM3d := hM3.new (Keeps.refl (fun _ => False) w3).drew
        have hE3d := own_keeps hE3 (Keeps.refl (fun _ => False) w3).drew (fun _ _ h => h)
        have hW3d := hW3.drew
        have HA2 := Lib.hid (colAppend w3.drew base gv A2 c2 B2 d2 _ y hM3d.val (by have h1 := HX2.out k; have h2 := HB3.out; rw [HL.out] at h1; omega) (by have := HB4.out; rw [List.length_append, List.length_map, List.length_map, List.length_take]; omega) (by omega))
        have t0 : (fun w' => w'.cell? ⟨gm, 2, none⟩ = some (.iface 84 (.pointer (some ⟨gv, 0, none⟩))) ∧ w'.cell? ⟨wr.heap.size, 1, none⟩ = some (.string y)) w3.drew := ⟨hM3d.blk.cell 2, hW3d.cell 1⟩
        have HM3 := Lib.hid hM3d
        have HE3 := Lib.hid hE3d
        have HW3 := Lib.hid hW3d
        have HK3 := Lib.hid (hK3.trans (Keeps.refl (fun _ => False) w3).drew (fun _ _ h => h.elim))
        clear hM3 hE3 hW3 hK3 hM3d hE3d hW3d s0 s1 hP
        go_wp2_with fail
        go_region_held3 (fun w' => w'.cell? ⟨gm, 2, none⟩ = some (.iface 84 (.pointer (some ⟨gv, 0, none⟩))) ∧ w'.cell? ⟨wr.heap.size, 1, none⟩ = some (.string y)) (first | exact t0 | exact t1) (
          (go_simp; go_at_call 160; refine HA2.out.mono ?_; rintro e w4 ⟨A4, c4, B4, d4, rfl, hP⟩; have hM4 := HM3.out.stepVal hP; have hE4 := hP.row HM3.out.val HE3.out (by decide) (by decide) (by decide); have hW4 := hP.box HM3.out.val HW3.out (by decide) (by decide) (by decide); have hK4 := HK3.out.trans (hP.up HM3.out.val) (fun _ _ h => h); have t1 : (fun w' => w'.cell? ⟨gm, 2, none⟩ = some (.iface 84 (.pointer (some ⟨gv, 0, none⟩))) ∧ w'.cell? ⟨wr.heap.size, 1, none⟩ = some (.string y)) w4 := ⟨hM4.blk.cell 2, hW4.cell 1⟩))
        all_goals
          rw [HSV.out] at hM4
          have HM4 := Lib.hid hM4
          have HE4 := Lib.hid hE4
          have HK4 := Lib.hid hK4
          clear hM4 hE4 hW4 hK4 hP t0 t1
          go_wp2_with fail
          go_roundw
          case rel => exact ⟨k + 1, A', c', B', d', A4, c4, B4, d4, by omega, by go_num, HM4.out, HE4.out, HK4.out⟩
          case measure => (first | (simp [RowKit.intOf]; done) | (simp [RowKit.intOf]; omega))
    · have hkn : k = n := by omega
      subst hkn
      have hMf := HMK.out
      rw [List.take_of_length_le (by rw [HL.out]; exact Nat.le_refl _)] at hMf
      have hMd := hMf.new (Keeps.refl (fun _ => False) wr).drew
      have hqk := hMd.key.blk
      have hlen : (KS ++ (L.map Prod.fst).map sl).length = KS.length + k := by rw [List.length_append, List.length_map, List.length_map, HL.out]
      rw [hlen] at hqk
      have hme2 : (method 454 84 (.pointer (some ⟨gk, 0, none⟩)) "Rows").run Tryz.prog wr.drew = .ok (165, .agg #[.slice A (KS ++ (L.map Prod.fst).map sl).flatten.length c, .slice B (KS.length + k) d]) wr.drew := mRows hqk _
      have e1 : wr.drew.cell? ⟨gm, 1, none⟩ = some (.iface 84 (.pointer (some ⟨gk, 0, none⟩))) := hMd.blk.cell 1
      have e1' : wr.cell? ⟨gm, 1, none⟩ = some (.iface 84 (.pointer (some ⟨gk, 0, none⟩))) := hMf.blk.cell 1
      obtain ⟨fn, hfn⟩ : ∃ fn, fn = KS.length + k := ⟨_, rfl⟩
      rw [← hfn] at hme2
      have hfn1 : fn ≤ 200000 := by have := HB2.out; omega
      have hwr : IntKind.u64.wrap (fn : Int) = (fn : Int) := IntWalk.u64_in _ (by omega)
      have HFN := Lib.hid hfn
      have HMD := Lib.hid hMd
      clear hfn hMf hMd hqk hlen hme
      generalize (KS ++ (L.map Prod.fst).map sl).flatten.length = FF at *
      go_wp2_with fail
      go_region_law (first
        | (go_simp
           go_at_call 59
           refine (u64Append w2 base gm 188 _ O ko nO OV fn hM2.blk rfl hM2.off (by decide) hM2.lo (by omega)).mono ?_
           rintro e w5 ⟨O5, k5, rfl, hb5, ho5, hK5, hr5⟩)
        | (go_simp
           go_at_call 165
           refine (colRowsV _ _ _ _ _ _ _).mono ?_
           rintro e w2 ⟨rfl, K2⟩
           have hM2 := HMD.out.new K2))
      all_goals
        go_end0
        rw [HFN.out] at ho5
        rw [show keysOf L = L.map Prod.fst from rfl, show valsOf L = L.map Prod.snd from rfl]
        have nK : ∀ z, (z = gm ∨ ob O = some z) → ¬ ColS gk A B z := by
          rintro z (h1 | h1)
          · rw [h1]; exact hM2.farK.1
          · exact hM2.farK.2 z h1
        have nV : ∀ z, (z = gm ∨ ob O = some z) → ¬ ColS gv A2 B2 z := by
          rintro z (h1 | h1)
          · rw [h1]; exact hM2.swap.1
          · exact hM2.swap.2 z h1
        have hlt2 := hM2.off.lt
        rw [ownBlock_slice] at hlt2
        refine ⟨O5, k5, A, c, B, d, A2, c2, B2, d2, rfl, ⟨hb5, ho5, hM2.key.keeps hK5 (fun h => nK _ h (.inl rfl)) (fun z hz h => nK _ h (.inr (.inl hz))) (fun z hz h => nK _ h (.inr (.inr hz))), hM2.val.keeps hK5 (fun h => nV _ h (.inl rfl)) (fun z hz h => nV _ h (.inr (.inl hz))) (fun z hz h => nV _ h (.inr (.inr hz))), hM2.apart, hM2.lo⟩, ?_⟩
        refine (HKK.out.trans ((Keeps.refl (fun _ => False) wr).drew.trans K2 (fun _ _ h => h)) (fun _ _ h => h.elim)).trans (hK5.mono (S' := fun z => base ≤ z) ?_) (fun _ _ h => h)
        rintro z _ (h1 | h1)
        · rw [h1]; exact hM2.lo
        · exact (hlt2 z h1).1
end Go.Proofs.YtkgjchfbbpabpaaGreat
