/- A column of strings encoded into a buffer: each string with its length ahead. Conditions: sizes far below the machine's; the column's rows lie apart from the buffer's. -/
import Derived.Test.YtpbnhhfpbadhjaaGreatSc
import Derived.Test.YtpbnhhfpbadhjaaGreatArS
import Derived.Test.YtpbnhhfpbadhjaaGreatUv
import Derived.Test.YtpbnhhfpbadhjaaGreatPut
import Derived.Deep.RegionLaw
namespace Go.Proofs.YtpbnhhfpbadhjaaGreat
open Go.RowKit Go.Lib
set_option linter.unusedVariables false
/-- Within the loop: the buffer, and the array that the lengths are laid in. -/
structure EncAt (w wr : World) (base bb h1 : Nat) (A A1 : Option Addr) (c1 : Nat) (l : List UInt8) : Prop where
  at' : BufAt wr base bb A1 c1 l
  keeps : Keeps (fun k => k = bb ∨ ob A = some k ∨ k = h1) w wr
  row : ob A1 = ob A ∨ ∀ k, ob A1 = some k → w.heap.size ≤ k
  arr : ∃ cs : Array Value, cs.size = 10 ∧ Whole wr h1 310 cs
theorem EncAt.behind {w wr w' : World} {base bb h1 c1 : Nat} {A A1 : Option Addr} {l : List UInt8} (h : EncAt w wr base bb h1 A A1 c1 l) (hk : Keeps (fun _ => False) wr w') : EncAt w w' base bb h1 A A1 c1 l := by
  obtain ⟨cs, hs, hW⟩ := h.arr
  exact ⟨h.at'.keeps hk (fun h => h) (fun _ _ h => h), h.keeps.trans hk (fun _ _ h => h.elim), h.row, cs, hs, hW.keeps hk (fun h => h)⟩
theorem EncAt.put {w wr w' : World} {base bb h1 c1 c2 : Nat} {A A1 A2 : Option Addr} {l l' : List UInt8} (h : EncAt w wr base bb h1 A A1 c1 l) (p : Put wr w' base bb A1 A2 c2 l') (f1 : h1 ≠ bb) (f2 : ob A1 ≠ some h1) : EncAt w w' base bb h1 A A2 c2 l' := by
  obtain ⟨cs, hs, hW⟩ := h.arr
  refine ⟨p.at', h.keeps.trans p.keeps ?_, ?_, cs, hs, hW.keeps p.keeps ?_⟩
  · rintro i hi (h2 | h2)
    · exact .inl h2
    · rcases h.row with hr | hr
      · exact .inr (.inl (by rw [← hr]; exact h2))
      · exact absurd (hr i h2) (by omega)
  · rcases p.row with hr | hr
    · rw [hr]; exact h.row
    · exact .inr fun i hi => Nat.le_trans h.keeps.size (hr i hi)
  · rintro (h2 | h2)
    · exact f1 h2
    · exact f2 h2
theorem EncAt.laid {w wr w' : World} {base bb h1 c1 : Nat} {A A1 : Option Addr} {l : List UInt8} {cs : Array Value} (h : EncAt w wr base bb h1 A A1 c1 l) (hk : Keeps (fun k => k = h1) wr w') (hs : cs.size = 10) (hW : Whole w' h1 310 cs) (f1 : bb ≠ h1) (f2 : ob A1 ≠ some h1) : EncAt w w' base bb h1 A A1 c1 l :=
  ⟨h.at'.keeps hk f1 (fun i hi h => by rw [h] at hi; exact f2 hi), h.keeps.trans hk (fun _ _ h => .inr (.inr h)), h.row, cs, hs, hW⟩
/-- A piece of a slice's bytes. -/
theorem piece {P : Program} {t e : TypeId} {i : TypeInfo} (ht : P.underlying t = some (.slice e)) (hi : P.info? e = some i) (h1 : i.size = 1) {w : World} {CA : Option Addr} {N kc S m : Nat} {xs : List Value} (hR : Rd w 1 CA N xs) (hN : N ≤ kc) (hS : S + m ≤ N) :
    ∃ CX, Rd w 1 CX m ((xs.drop S).take m) ∧ ∀ w', (Instr.sliceAt t (.slice CA N kc) (some (.int .i64 (S : Int))) (some (.int .i64 ((S : Int) + (m : Int)))) none).run P w' = .ok (.slice CX m (kc - S)) w' ∧ (Instr.slice t (.slice CA N kc) (some (.int .i64 (S : Int))) (some (.int .i64 ((S : Int) + (m : Int)))) none).run P w' = .ok (.slice CX m (kc - S)) w' := by
  refine ⟨if kc = S then CA else CA.map (·.add S), ?_, fun w' => ?_⟩
  · refine ⟨?_, fun hm => ?_⟩
    · rw [List.length_take, List.length_drop, hR.1]; omega
    · obtain ⟨ad, rfl, hb, hc⟩ := hR.2 (by omega)
      rw [if_neg (by omega)]
      have := (Rd.part (lo := S) (hi := S + m) hR (by omega) hS).2 (by omega)
      simpa [Nat.add_sub_cancel_left] using this
  · have e1 : ((S : Int) + (m : Int)).toNat = S + m := by omega
    have e2 : (S : Int) + (m : Int) ≤ (kc : Int) := by omega
    have e3 : (0 : Int) ≤ (S : Int) + (m : Int) := by omega
    have e4 := run_sliceBound (P := P) w' .i64 (S : Int) (S + m) .sliceB (by omega) (by omega)
    have hs : (Instr.slice t (.slice CA N kc) (some (.int .i64 (S : Int))) (some (.int .i64 ((S : Int) + (m : Int)))) none).run P w' = .ok (.slice (if kc = S then CA else CA.map (·.add S)) m (kc - S)) w' := by
      simp [Instr.slice, run_underlying ht, Instr.sliceBounds, run_sliceBound, e1, e2, e3, e4, sizeOf, typeInfo, hi, h1]
    refine ⟨?_, hs⟩
    rw [← hs]
    simp [Instr.sliceAt, run_underlying ht]
def StrRes (w : World) (base bb : Nat) (A : Option Addr) (l : List UInt8) (L : List (List UInt8)) (e : Ending) (w' : World) : Prop := ∃ A' c', e = .returned (.tuple #[]) ∧ Put w w' base bb A A' c' (l ++ encB L)

set_option maxRecDepth 100000 in
set_option maxHeartbeats 2000000 in
theorem encStr (w : World) (base bb : Nat) (A : Option Addr) (c : Nat) (l : List UInt8) (CA CB : Option Addr) (N n kc kd : Nat) (L : List (List UInt8)) (hB : BufAt w base bb A c l) (hN : L.flatten.length = N) (hl : L.length = n) (hRA : Rd w 1 CA N (Lib.byteCells L.flatten)) (hRB : Rd w 2 CB n (posCells 0 L))
    (hCA : ∀ k, ob CA = some k → k ≠ bb ∧ ob A ≠ some k ∧ k < w.heap.size) (hCB : ∀ k, ob CB = some k → k ≠ bb ∧ ob A ≠ some k ∧ k < w.heap.size) (hC0 : 0 < n → ∃ gB, CB = some ⟨gB, 0, none⟩) (hkc : N ≤ kc) (hkm : kc ≤ maxLen) (hn : l.length + (encB L).length ≤ 1000000000) (hNN : N ≤ 1000000000) (hnn : n ≤ 1000000) :
    Calls Tryz.prog 142 #[.agg #[.slice CA N kc, .slice CB n kd], .pointer (some ⟨bb, 0, none⟩)] w fun e w' => StrRes w base bb A l L e w' := by
  obtain ⟨i0, hi0, hz0, hz1, hz2⟩ := info_parts infoU8
  have hlt := hB.blk.lt
  have hbase : base ≤ w.heap.size := by have := hB.lo; omega
  have HB := Lib.hid hB
  have HRA := Lib.hid hRA
  have HRB := Lib.hid hRB
  have HL := Lib.hid hl
  have HN := Lib.hid hN
  have HCA := Lib.hid hCA
  have HCB := Lib.hid hCB
  have HE := Lib.hid hn
  have HKM := Lib.hid hkm
  clear hB hRA hRB hl hN hCA hCB hn hkm
  go_enter Tryz.func142, Tryz.ntmps142
  go_wp2_with fail
  have K0 : Keeps (fun _ => False) w ((w.alloc (.cells #[.slice CA N kc, .slice CB n kd] 59)).alloc (.cells #[.int .u8 0, .int .u8 0, .int .u8 0, .int .u8 0, .int .u8 0, .int .u8 0, .int .u8 0, .int .u8 0, .int .u8 0, .int .u8 0] 310)) := ((Keeps.refl _ w).alloc _).alloc _
  have hbx : Whole ((w.alloc (.cells #[.slice CA N kc, .slice CB n kd] 59)).alloc (.cells #[.int .u8 0, .int .u8 0, .int .u8 0, .int .u8 0, .int .u8 0, .int .u8 0, .int .u8 0, .int .u8 0, .int .u8 0, .int .u8 0] 310)) w.heap.size 59 #[.slice CA N kc, .slice CB n kd] := (Whole.new w _ _).alloc _
  have hsz1 : (w.alloc (.cells #[.slice CA N kc, .slice CB n kd] 59)).heap.size = w.heap.size + 1 := by simp
  have harr : Whole ((w.alloc (.cells #[.slice CA N kc, .slice CB n kd] 59)).alloc (.cells #[.int .u8 0, .int .u8 0, .int .u8 0, .int .u8 0, .int .u8 0, .int .u8 0, .int .u8 0, .int .u8 0, .int .u8 0, .int .u8 0] 310)) (w.heap.size + 1) 310 #[.int .u8 0, .int .u8 0, .int .u8 0, .int .u8 0, .int .u8 0, .int .u8 0, .int .u8 0, .int .u8 0, .int .u8 0, .int .u8 0] := by
    have h := Whole.new (w.alloc (.cells #[.slice CA N kc, .slice CB n kd] 59)) 310 #[.int .u8 0, .int .u8 0, .int .u8 0, .int .u8 0, .int .u8 0, .int .u8 0, .int .u8 0, .int .u8 0, .int .u8 0, .int .u8 0]
    rw [hsz1] at h
    exact h
  have hsz : ((w.alloc (.cells #[.slice CA N kc, .slice CB n kd] 59)).alloc (.cells #[.int .u8 0, .int .u8 0, .int .u8 0, .int .u8 0, .int .u8 0, .int .u8 0, .int .u8 0, .int .u8 0, .int .u8 0, .int .u8 0] 310)).heap.size = w.heap.size + 2 := by simp
  generalize ((w.alloc (.cells #[.slice CA N kc, .slice CB n kd] 59)).alloc (.cells #[.int .u8 0, .int .u8 0, .int .u8 0, .int .u8 0, .int .u8 0, .int .u8 0, .int .u8 0, .int .u8 0, .int .u8 0, .int .u8 0] 310)) = w2 at *
  have HS := Lib.hid (show EncAt w2 w2 base bb (w.heap.size + 1) A A c (l ++ encB (L.take 0)) from ⟨by simpa [encB] using HB.out.keeps K0 (fun h => h) (fun _ _ h => h), Keeps.refl _ _, .inl rfl, ⟨_, rfl, harr⟩⟩)
  have HBX := Lib.hid hbx
  have HAf : Hid (∀ k, ob A = some k → k < w.heap.size) := Lib.hid (fun k hk => (HB.out.row_lo k hk).2)
  clear hbx harr hsz1
  go_loopw [6, 7, 8, 12] (fun _ _ _ i wr => ∃ (k : Nat) (A1 : Option Addr) (c1 : Nat), k ≤ n ∧ i = .int .i64 k ∧ EncAt w2 wr base bb (w.heap.size + 1) A A1 c1 (l ++ encB (L.take k))) (fun _ _ _ i _ => n - (RowKit.intOf i).toNat)
  case atStart => exact ⟨0, A, c, Nat.zero_le _, rfl, HS.out⟩
  case round =>
    obtain ⟨k, A1, c1, hk, rfl, hP⟩ := hrel
    generalize hl1 : l ++ encB (L.take k) = l1 at *
    have HP := Lib.hid hP
    have HL1 := Lib.hid hl1
    clear hP hl1
    by_cases hlt2 : k < n
    · obtain ⟨x, hx⟩ : ∃ x, L[k]? = some x := ⟨_, List.getElem?_eq_getElem (by rw [HL.out]; exact hlt2)⟩
      have hwsz : w.heap.size + 2 ≤ wr.heap.size := by have := HP.out.keeps.size; omega
      have hRBw : Rd wr 2 CB n (posCells 0 L) := (HRB.out.keeps K0 (fun _ _ h => h)).keeps HP.out.keeps (fun i hi h => by
        obtain ⟨h1, h2, h3⟩ := HCB.out i hi
        rcases h with h | h | h
        · exact h1 h
        · exact h2 h
        · omega)
      have HRAw := Lib.hid (show Rd wr 1 CA N (Lib.byteCells L.flatten) from (HRA.out.keeps K0 (fun _ _ h => h)).keeps HP.out.keeps (fun i hi h => by
        obtain ⟨h1, h2, h3⟩ := HCA.out i hi
        rcases h with h | h | h
        · exact h1 h
        · exact h2 h
        · omega))
      have hbxw : Whole wr w.heap.size 59 #[.slice CA N kc, .slice CB n kd] := HBX.out.keeps HP.out.keeps (fun h => by
        rcases h with h | h | h
        · omega
        · have := HAf.out _ h; omega
        · omega)
      have hbx0 : wr.cell? ⟨w.heap.size, 0, none⟩ = some (.slice CA N kc) := hbxw.cell 0
      have hps := posCells_get 0 L k x hx
      rw [Nat.zero_add] at hps
      have hSx : (L.take k).flatten.length + x.length ≤ N := by
        have h1 := flat_le L (k + 1)
        rw [List.take_add_one, hx] at h1
        simp only [Option.toList, List.flatten_append, List.flatten_cons, List.flatten_nil, List.append_nil, List.length_append] at h1
        rw [HN.out] at h1
        exact h1
      have hEB : Hid (l1 ++ Lib.uvarint x.length ++ x = l ++ encB (L.take (k + 1)) ∧ l1.length + (Lib.uvarint x.length).length + x.length ≤ 1000000000) := Lib.hid (by
        have h1 := encB_step hx
        have h2 := encB_le L (k + 1)
        have h3 := HE.out
        have h4 : l1 ++ Lib.uvarint x.length ++ x = l ++ encB (L.take (k + 1)) := by rw [h1, ← HL1.out]; simp
        refine ⟨h4, ?_⟩
        have h5 := congrArg List.length h4
        simp only [List.length_append] at h5
        omega)
      have HX := Lib.hid hx
      have hpart : Hid (((L.flatten).drop ((L.take k).flatten.length)).take x.length = x) := Lib.hid (by
        have h1 : L = L.take k ++ x :: L.drop (k + 1) := by
          have h2 := List.getElem?_eq_some_iff.1 hx
          obtain ⟨h3, h4⟩ := h2
          rw [← h4, List.getElem_cons_drop, List.take_append_drop]
        have h5 : L.flatten = (L.take k).flatten ++ (x ++ (L.drop (k + 1)).flatten) := by
          conv => lhs; rw [h1]
          simp
        rw [h5, List.drop_left, List.take_left])
      clear hx
      generalize hS : (L.take k).flatten.length = S at *
      generalize hX : x.length = m at *
      have HSX := Lib.hid hS
      have HXX := Lib.hid hX
      clear hS hX
      obtain ⟨gB, rfl⟩ := hC0 (by omega)
      obtain ⟨ad, had, hadb, hadc⟩ := hRBw.2 (by omega)
      injection had with had
      subst had
      have hp0 : wr.cell? ⟨gB, k * 2, none⟩ = some (.int .i64 ((S : Nat) : Int)) := by have := hadc _ _ hps.1; rwa [add_lit', Nat.zero_add] at this
      have hp1 : wr.cell? ⟨gB, k * 2 + 1, none⟩ = some (.int .i64 ((S + m : Nat) : Int)) := by have := hadc _ _ hps.2; rwa [add_lit', Nat.zero_add] at this
      clear hadc hps hRBw
      go_wp2_with fail
      have hsub : (S : Int) + (m : Int) - (S : Int) = (m : Int) := by omega
      rw [hsub]
      have hP1 := HP.out.behind ((Keeps.refl (fun _ => False) wr).alloc (.cells #[.int .i64 (S : Int), .int .i64 ((S : Int) + (m : Int))] 238))
      have hpos := Whole.new wr 238 #[.int .i64 (S : Int), .int .i64 ((S : Int) + (m : Int))]
      have hbx1 := hbxw.alloc (.cells #[.int .i64 (S : Int), .int .i64 ((S : Int) + (m : Int))] 238)
      have hRA1 := Lib.hid (HRAw.out.alloc (.cells #[.int .i64 (S : Int), .int .i64 ((S : Int) + (m : Int))] 238))
      have hbl := hP1.at'.blk.lt
      have hposlt := hpos.lt
      generalize (wr.alloc (.cells #[.int .i64 (S : Int), .int .i64 ((S : Int) + (m : Int))] 238)) = wp at *
      obtain ⟨cs, hcs, harr⟩ := hP1.arr
      have nA1 : ob A1 ≠ some (w.heap.size + 1) := by
        intro h
        rcases hP1.row with hr | hr
        · rw [hr] at h
          have := HAf.out _ h
          omega
        · have := hr _ h
          omega
      refine (uvPut wp (w.heap.size + 1) 310 cs m harr hcs (by omega)).mono ?_
      rintro e w3 ⟨rfl, hW3, K3⟩
      have hB3 := hP1.at'.keeps K3 (by omega) (fun i hi h => by rw [h] at hi; exact nA1 hi)
      obtain ⟨q, hq⟩ : ∃ q, (Lib.uvarint m).length = q := ⟨_, rfl⟩
      have hq10 : q ≤ 10 := by rw [← hq]; exact Lib.uvarint_length64 (by omega)
      have hR : Rd w3.drew 1 (some ⟨w.heap.size + 1, 0, none⟩) q (Lib.byteCells (Lib.uvarint m)) := by
        have h1 : (puts cs 0 (Lib.byteCells (Lib.uvarint m))).toList.take q = Lib.byteCells (Lib.uvarint m) := by
          rw [puts_list _ _ _ (by simp [Lib.byteCells_length]; omega), List.take_zero, List.nil_append, ← hq, ← Lib.byteCells_length, List.take_left]
        have h2 := (Rd.whole (n := 10) hW3.drew rfl (by rw [Array.length_toList, puts_size]; exact hcs)).part (lo := 0) (hi := q) (by omega) (by omega)
        simp only [List.drop_zero, Nat.sub_zero, Nat.mul_one] at h2
        rw [h1] at h2
        exact h2
      have hbx3 := hbx1.keeps K3 (by omega)
      have hpos3 := hpos.keeps K3 (by omega)
      have hRA3 := Lib.hid (show Rd w3 1 CA N (Lib.byteCells L.flatten) from hRA1.out.keeps K3 (fun i hi h => by have := (HCA.out i hi).2.2; omega))
      have hc3 : w3.cell? ⟨bb, 0, none⟩ = some (.slice A1 l1.length c1) := hB3.blk.cell 0
      have heb := hEB.out.2
      rw [hq] at heb
      have hb63 : l1.length + q ≤ maxLen := by simp only [maxLen]; omega
      have hb64 : (l1.length + q) * 1 ≤ 140737488355328 := by omega
      have hb65 : base ≤ w3.drew.heap.size := by have := hB3.lo; have := hB3.blk.lt; exact Nat.le_trans hB3.lo (Nat.le_of_lt this)
      have o1 := byteCells_one (Lib.uvarint m)
      rw [hq]
      have hsl := fun a w => run_slice_arr (P := Tryz.prog) (t := 310) (e := 5) (n := 10) (m := q) Tryz.underlying310 hi0 hq10 a w
      have HQ := Lib.hid hq
      clear hq hq10 harr hpos hbx1 hbxw
      go_wp2_with fail
      go_region_law (
        (refine step_append_rd _ rfl (.tmp 29) (.tmp 31) 33 rfl base 5 i0 (.int .u8 0) 1 1 Tryz.underlying33 hi0 hz0 hz1 hz2 rfl Nat.one_pos A1 c1 l1.length (Lib.byteCells l1) rfl hB3.own (some ⟨w.heap.size + 1, 0, none⟩) q 10 (Lib.byteCells (Lib.uvarint m)) rfl hR o1 hb63 hb64 hb65 ?_
         intro A2 c2 w4 hown hg hat
         have hblk := hB3.blk.drew.grown hg (Ne.symm hB3.far)
         have hc4 : w4.cell? ⟨bb, 0, none⟩ = some (.slice A1 l1.length c1) := hblk.cell 0
         have hf4 : w4.frozen? ⟨bb, 0, none⟩ = false := hblk.frozen 0))
      have hP4 := put_of (d := Lib.uvarint m) HQ.out hB3 (Keeps.refl (fun _ => False) w3).drew hown hg hat
      have nAh : ob A1 ≠ some w.heap.size := by
        intro h
        rcases HP.out.row with hr | hr
        · rw [hr] at h
          have := HAf.out _ h
          omega
        · have := hr _ h
          omega
      have nAw : ob A1 ≠ some wr.heap.size := fun h => by have := (HP.out.at'.row_lo _ h).2; omega
      have hbbw : bb < wr.heap.size := HP.out.at'.blk.lt
      have HQ3 := Lib.hid ((hP1.laid K3 (by rw [puts_size]; exact hcs) hW3 (by omega) nA1).put hP4 (by omega) nA1)
      have hbx5 := hbx3.keeps hP4.keeps (fun h => by
        rcases h with h | h
        · omega
        · exact nAh h)
      have hpos5 := hpos3.keeps hP4.keeps (fun h => by
        rcases h with h | h
        · omega
        · exact nAw h)
      have hRA5 := hRA3.out.keeps hP4.keeps (fun i hi h => by
        obtain ⟨h1, h2, h3⟩ := HCA.out i hi
        rcases h with h | h
        · exact h1 h
        · rcases HP.out.row with hr | hr
          · rw [hr] at h; exact h2 h
          · have := hr _ h; omega)
      have hB5 := hP4.at'
      have hl5 : (l1 ++ Lib.uvarint m).length = l1.length + q := by rw [List.length_append, HQ.out]
      rw [← hl5]
      rw [← hl5] at hP4 hB5 HQ3 hbx5 hpos5 hRA5 hown
      generalize (w4.setCell ⟨bb, 0, none⟩ (.slice A2 (l1 ++ Lib.uvarint m).length c2)) = w5 at *
      generalize hq5 : l1 ++ Lib.uvarint m = l5 at *
      obtain ⟨CX, hRX, hcut⟩ := piece (P := Tryz.prog) (t := 33) Tryz.underlying33 hi0 hz1 hRA5 hkc hSx
      have hcut1 := fun w' => (hcut w').1
      have hcut2 := fun w' => (hcut w').2
      clear hcut
      have hRX2 : Rd w5.drew 1 CX m (Lib.byteCells x) := by
        have e : Lib.byteCells ((L.flatten.drop S).take m) = ((Lib.byteCells L.flatten).drop S).take m := by simp [Lib.byteCells, List.map_take, List.map_drop]
        rw [← hpart.out, e]
        exact hRX
      have hbl5 := hB5.blk.lt
      have hc5 : w5.cell? ⟨bb, 0, none⟩ = some (.slice A2 l5.length c2) := hB5.blk.cell 0
      have hx50 : w5.cell? ⟨w.heap.size, 0, none⟩ = some (.slice CA N kc) := hbx5.cell 0
      have hs50 : w5.cell? ⟨wr.heap.size, 0, none⟩ = some (.int .i64 (S : Int)) := hpos5.cell 0
      have hs51 : w5.cell? ⟨wr.heap.size, 1, none⟩ = some (.int .i64 ((S : Int) + (m : Int))) := hpos5.cell 1
      have hb73 : l5.length + m ≤ maxLen := by simp only [maxLen]; omega
      have hb74 : (l5.length + m) * 1 ≤ 140737488355328 := by omega
      have hb75 : base ≤ w5.drew.heap.size := Nat.le_trans hB5.lo (Nat.le_of_lt hbl5)
      have ox := byteCells_one x
      have nA2 : ob A2 ≠ some (w.heap.size + 1) := by
        intro h
        rcases hP4.row with hr | hr
        · rw [hr] at h; exact nA1 h
        · have h2 := hr _ h
          have h3 := K3.size
          omega
      have HP4 := Lib.hid hP4
      have HQL := Lib.hid hl5
      clear hP4 hown hg hat hRX hl5 hRA5
      go_wp2_with fail
      go_region_law (
        (refine step_append_rd _ rfl (.tmp 39) (.tmp 46) 33 rfl base 5 i0 (.int .u8 0) 1 1 Tryz.underlying33 hi0 hz0 hz1 hz2 rfl Nat.one_pos A2 c2 l5.length (Lib.byteCells l5) rfl hB5.own CX m (kc - S) (Lib.byteCells x) rfl hRX2 ox hb73 hb74 hb75 ?_
         intro A3 c3 w6 hown6 hg6 hat6
         have hblk6 := hB5.blk.drew.grown hg6 (Ne.symm hB5.far)
         have hc6 : w6.cell? ⟨bb, 0, none⟩ = some (.slice A2 l5.length c2) := hblk6.cell 0
         have hf6 : w6.frozen? ⟨bb, 0, none⟩ = false := hblk6.frozen 0))
      all_goals
        go_wp2_with fail
        have hP6 := put_of (d := x) HXX.out hB5 (Keeps.refl (fun _ => False) w5).drew hown6 hg6 hat6
        have hq7 := HQ3.out.put hP6 (by omega) nA2
        rw [hEB.out.1] at hq7
        go_roundw
        case rel => exact ⟨k + 1, A3, c3, by omega, by go_num, hq7⟩
        case measure => (first | (simp [RowKit.intOf]; done) | (simp [RowKit.intOf]; omega))
    · have hkn : k = n := by omega
      subst hkn
      go_wp2_with fail
      go_end0
      have hfin := HP.out
      rw [← HL1.out, List.take_of_length_le (by rw [HL.out]; exact Nat.le_refl _)] at hfin
      refine ⟨A1, c1, rfl, ⟨hfin.at', ?_, ?_⟩⟩
      · refine (K0.mono (S' := fun k => k = bb ∨ ob A = some k) (fun _ _ h => h.elim)).trans hfin.keeps (fun i hi h => ?_)
        rcases h with h | h | h
        · exact .inl h
        · exact .inr h
        · omega
      · exact hfin.row.imp id fun h i hi => Nat.le_trans K0.size (h i hi)
end Go.Proofs.YtpbnhhfpbadhjaaGreat
