/- impl.ARReadQBit: the vectors are read again. Conditions: the bytes are theirs; at most 100 vectors of at most 100 finite numbers. -/
import Derived.Test.YtfkokngjclaikaaVg
import Derived.Test.YtfkokngjclaikaaDs
import Derived.Test.YtfkokngjclaikaaEs
import Derived.OwnWalk
namespace Go.Proofs.Ytfkokngjclaikaa
open Go.RowKit Go.Lib
set_option linter.unusedVariables false
theorem qRows (w : World) (g b0 : Nat) (nm : ByteArray) (n W nb m : Nat) (cs : Array Value) (hQ : QAt w g b0 nm n W nb cs m) : Calls Try.prog 16 #[.pointer (some ⟨g, 0, none⟩)] w fun e' w' => e' = .returned (.int .i64 (m : Int)) ∧ w = w' := by
  have c5 : w.cell? ⟨g, 5, none⟩ = some (.int .i64 (m : Int)) := hQ.col.cell 5
  have hgl := hQ.col.lt
  clear hQ
  go_enter Try.func16, Try.ntmps16
  go_wp2_with fail
  go_ret
  exact ⟨rfl, rfl⟩
set_option maxRecDepth 100000 in
set_option maxHeartbeats 2000000 in
theorem turnedF (w : World) (A : Option Addr) (n c : Nat) (f : Nat → Nat) (hR : Rd w 1 A n (gcells n f).toList) (hn : n ≤ 1000) : Calls Try.prog 17 #[.slice A n c, .func (.func 19) #[] #[]] w fun e' w' => ∃ B d, e' = .returned (.slice B n d) ∧ w'.ownsRow w.heap.size 32 1 (.slice B n d) n (nv ((List.range n).map f)) ∧ Keeps (fun _ => False) w w' := by
  obtain ⟨i0, hi0, hz0, hz1, hz2⟩ := info_parts infoN
  have HR := Lib.hid hR
  clear hR
  go_enter Try.func17, Try.ntmps17
  go_wp2_with fail
  go_loopw [5, 10] (fun b i wr => ∃ (k : Nat) (B : Option Addr) (cB : Nat), k ≤ n ∧ b = .slice B k cB ∧ i = .int .i64 k ∧ wr.ownsRow w.heap.size 32 1 (.slice B k cB) k (nv ((List.range k).map f)) ∧ Hid (Keeps (fun _ => False) w wr)) (fun _ i _ => n - (RowKit.intOf i).toNat)
  case atStart => exact ⟨0, none, 0, Nat.zero_le _, rfl, rfl, World.ownsRow_nil _ _ _ _, Lib.hid (Keeps.refl _ _)⟩
  case round =>
    obtain ⟨k, B, cB, hk, rfl, rfl, hown, HK⟩ := hrel
    by_cases hlt : k < n
    · obtain ⟨ad, u, rfl, hb, hu, hc⟩ := (HR.out.keeps HK.out (fun _ _ h => h)).at' hlt
      obtain rfl : u = .float .f32 (f k) := by
        rw [Array.getElem?_toList, gcells_get hlt] at hu
        injection hu with hu
        exact hu.symm
      have HT := Lib.hid (show nv ((List.range (k + 1)).map f) = nv ((List.range k).map f) ++ [.int .u32 ((f k : Nat) : Int)] by rw [List.range_succ, List.map_append, nv_app]; rfl)
      generalize f k = x at *
      have hext := vx32b x
      have HOWN := Lib.hid hown
      clear hu hown
      go_wp2_with (at_builtin
                   refine wpList_append_rd _ rfl (.tmp 14) (.tmp 18) _ rfl w.heap.size 32 i0 _ 1 4 Try.underlying35 hi0 hz0 hz1 hz2 rfl Nat.one_pos B cB k _ rfl (own_grow (w1 := wr) HOWN.out _) (some ⟨wr.heap.size, 0, none⟩) 1 1 [.int .u32 ((x : Nat) : Int)] rfl (rd_cell _ _ _) (by intro u hu; rw [List.mem_singleton.1 hu]; rfl) (by simp only [maxLen]; omega) (by omega) (by have := HK.out.size; simp; omega) ?_
                   intro B2 c2 w2 hown2 hg2 hat2)
      have hK2 := (HK.out.alloc (.cells #[.int .u32 ((x : Nat) : Int)] 32)).grown hg2 (fun i hi => .inr (HOWN.out.lt i (by rw [ownBlock_slice]; exact hi)).1)
      rw [← HT.out] at hown2
      have HOWN2 := Lib.hid hown2
      have HK2 := Lib.hid hK2
      clear hown2 hK2 hg2 hat2 hext
      go_wp2_with fail
      go_roundw
      case rel => exact ⟨k + 1, B2, c2, by omega, rfl, by go_num, HOWN2.out, HK2⟩
      case measure => (first | (simp [RowKit.intOf]; done) | (simp [RowKit.intOf]; omega))
    · have hkn : k = n := by omega
      subst hkn
      have HOWN := Lib.hid hown
      clear hown
      go_wp2_with fail
      go_ret
      exact ⟨B, cB, rfl, HOWN.out, HK.out⟩
theorem infoSlN2 : (Try.prog.info? 35).map (fun i => (i.zero, i.size, i.bytes)) = some (some (.slice none 0 0), 1, 24) := by kernel_rfl
theorem qbytes_tail (W m nb n : Nat) (q : Nat → List Nat) : qbytes W m nb n q = tailB (m * nb) (fun p j => pfin W m nb n q (p * (m * nb) + j)) 0 W := by
  have h := range_tail (m * nb) (pfin W m nb n q) W 0
  simp only [Nat.zero_mul, Nat.zero_add] at h
  rw [qbytes, Nat.mul_assoc, h]
theorem plane_get {W m nb n : Nat} {q : Nat → List Nat} {r p k : Nat} (hr : r < m) (hk : k < n) (hnb : nb = (n + 7) / 8) : pfin W m nb n q (p * (m * nb) + (r * nb + (nb - 1 - k / 8))) / 2 ^ (k % 8) % 2 = ((q r).getD k 0) / 2 ^ (W - 1 - p) % 2 := by
  obtain ⟨d1, d2, d3⟩ := dec_idx (m := m) (nb := nb) (P := p) (R := r) (J := nb - 1 - k / 8) hr (by omega)
  have e : p * (m * nb) + (r * nb + (nb - 1 - k / 8)) = (p * m + r) * nb + (nb - 1 - k / 8) := by rw [Nat.add_mul, Nat.mul_assoc, Nat.add_assoc]
  rw [e, pfin, d1, d2, d3]
  exact pb_get hnb hk
theorem RB.apart2 {w w' : World} {S : Nat → Prop} {A : Option Addr} {VS : List Value} {R : List (List Value)} (h : RB w A VS R) (hk : Keeps S w w') (hS : ∀ v ∈ VS, ∀ q, v.ownBlock = some q → ¬ S q) : RB w' A VS R := ⟨h.1, fun i xs hx => by
  obtain ⟨B, d, h1, h2, h3⟩ := h.2 i xs hx
  exact ⟨B, d, h1, h2.keeps hk (fun q hq => hS _ (List.mem_of_getElem? h1) q (by rw [ownBlock_slice]; exact hq)), fun q hq => ⟨Nat.lt_of_lt_of_le (h3 q hq).1 hk.size, (h3 q hq).2⟩⟩⟩
theorem range_getD {X : List Nat} {n : Nat} (h : X.length = n) (f : Nat → Nat) : (List.range n).map (fun k => f (X.getD k 0)) = X.map f := by
  subst h
  apply List.ext_getElem?
  intro i
  by_cases hi : i < X.length
  · simp [List.getElem?_range hi, List.getElem?_eq_getElem hi]
  · rw [List.getElem?_eq_none (by simp; omega), List.getElem?_eq_none (by simp; omega)]
/-- What ARReadQBit answers. -/
def VecGot (w : World) (RR : List (List Nat)) (l : Nat) (e : Ending) (w' : World) : Prop := ∃ T ct VS, e = .returned (.tuple #[.slice T RR.length ct, .int .i64 (l : Int), .bool true]) ∧ w'.ownsRow w.heap.size 35 1 (.slice T RR.length ct) RR.length VS ∧ RB w' T VS (RR.map nv) ∧ (∀ v ∈ VS, ∀ q, v.ownBlock = some q → w.heap.size ≤ q) ∧ Keeps (fun _ => False) w w'
set_option maxRecDepth 100000 in
set_option maxHeartbeats 8000000 in
theorem arReadQBit (e : Nat) (he : e < 3) (n nb : Nat) (hn0 : 0 < n) (hn : n ≤ 100) (hnb : nb = (n + 7) / 8) (w : World) (D : Option Addr) (c m len : Nat) (LL : List (List Nat)) (hl : LL.length = m) (hm0 : 0 < m) (hm : m ≤ 100) (hX : ∀ X ∈ LL, X.length = n ∧ ∀ x ∈ X, Fin32 x) (rest l : List UInt8) (hL : l = qbytes (eW e) m nb n (fun r => (LL.getD r []).map (eBits e)) ++ rest) (hlen : l.length = len) (hR : Rd w 1 D len (Lib.byteCells l)) (hc : len ≤ c) (hD : ∀ i, ob D = some i → i < w.heap.size) :
    Calls Try.prog 7 #[.string (eName e), .int .i64 (n : Int), .slice D len c, .int .i64 (m : Int)] w (VecGot w (LL.map fun X => X.map (eOut e)) rest.length) := by
  obtain ⟨i0, hi0, hz0, hz1, hz2⟩ := info_parts infoSlN2
  subst hlen
  have hW := eW_le e
  have K0 := (Keeps.refl (fun _ => False) w).alloc (.cells #[.bool false] 4)
  have HNQ := Lib.hid (newQE e he n nb (by omega) hnb (w.alloc (.cells #[.bool false] 4)))
  rw [World.size_alloc] at HNQ
  have HN := Lib.hid (fun (W1 : World) (K : Keeps (fun _ => False) w W1) => newRdr W1 D c l (hR.keeps K (fun _ _ h => h)) hc (fun i hi => Nat.lt_of_lt_of_le (hD i hi) K.size))
  have HXX := Lib.hid hX
  have HLL := Lib.hid hl
  have HDD := Lib.hid hD
  have HLB := Lib.hid hL
  have HB0 := Lib.hid (Whole.new w 4 #[.bool false])
  have HK0 := Lib.hid K0
  clear hR hX hl hD hL K0
  go_enter_defers Try.func7, Try.ntmps7
  go_wp2_with fail
  refine HNQ.out.mono ?_
  rintro e' w1 ⟨cs, rfl, K1, hQ, hP⟩
  have HK1 := Lib.hid (HK0.out.trans K1 (fun _ _ h => h))
  have HN1 := Lib.hid (HN.out w1 HK1.out)
  have HQ := Lib.hid hQ
  have HP := Lib.hid hP
  have HB1 := Lib.hid (HB0.out.keeps K1 (fun h => h))
  have hg1 := hQ.col.lt
  clear K1 hQ hP
  go_wp2_with fail
  refine HN1.out.mono ?_
  rintro e' w2 ⟨rfl, hRd, K2, hs2⟩
  have hpre : QPre w1.heap.size (ob D) (w.heap.size + 1 + 1 + eW e) (w.heap.size + 1) (eW e) := ⟨rfl, hg1, fun i hi => by have := HDD.out i hi; omega⟩
  have hnb13 : nb ≤ 13 := by omega
  have hnb0 : 0 < nb := by omega
  have HDE := Lib.hid (qDecode w2 w1.heap.size (w1.heap.size + 1) w1.heap.size (ob D) (w.heap.size + 1 + 1 + eW e) (w.heap.size + 1) (eName e) n (eW e) nb m (m * nb) cs (fun p j => pfin (eW e) m nb n (fun r => (LL.getD r []).map (eBits e)) (p * (m * nb) + j)) rest hpre (by omega) hm0 hm hnb13 hW.2 rfl (Nat.mul_pos hm0 hnb0) (fun p j => pb_lt _ _ _ _ _) (HQ.out.new K2) (fun p hp => ⟨(HP.out p hp).1, (HP.out p hp).2.keeps K2 (fun h => h)⟩) (by rw [← qbytes_tail, ← HLB.out]; exact hRd))
  have HK2 := Lib.hid (HK1.out.trans K2 (fun _ _ h => h))
  have HB2 := Lib.hid (HB1.out.keeps K2 (fun h => h))
  clear hRd K2 hs2 hpre
  go_wp2_with fail
  refine HDE.out.mono ?_
  rintro e' w3 ⟨cs3, R3, rfl, hQ3, hP3, hR3, K3⟩
  have HQ3 := Lib.hid hQ3
  have HP3 := Lib.hid hP3
  have HR3 := Lib.hid hR3
  have HB3 := Lib.hid (HB2.out.keeps K3 (by omega))
  have HK3 := Lib.hid (HK2.out.trans K3 (fun i hi h => by omega))
  have HS3 := Lib.hid (show w.heap.size < w3.heap.size from HB3.out.lt)
  clear hQ3 hP3 hR3 K3
  go_wp2_with fail
  go_loopw [8, 14] (fun v i wr => ∃ (k : Nat) (T : Option Addr) (ct : Nat) (VS : List Value), k ≤ m ∧ v = .slice T k ct ∧ i = .int .i64 k ∧ wr.ownsRow w3.heap.size 35 1 (.slice T k ct) k VS ∧ RB wr T VS ((LL.take k).map fun X => nv (X.map (eOut e))) ∧ (∀ v ∈ VS, ∀ q, v.ownBlock = some q → w3.heap.size ≤ q) ∧ Keeps (fun _ => False) w3 wr) (fun _ i _ => m - (RowKit.intOf i).toNat)
  case atStart => exact ⟨0, none, 0, [], Nat.zero_le _, rfl, rfl, World.ownsRow_nil _ w3.heap.size 35 1, RB.nil _ _, (fun v hv => by cases hv), Keeps.refl _ _⟩
  case round =>
    obtain ⟨k, T, ct, VS, hk, rfl, rfl, hown, hRB, hLow, hK⟩ := hrel
    have HLow := Lib.hid hLow
    clear hLow
    have HRB := Lib.hid hRB
    have HA1 := Lib.hid (show ∀ q, ob T = some q → q < wr.heap.size from fun q hq => (hown.lt q (by rw [ownBlock_slice]; exact hq)).2)
    have hsz := hK.size
    have HRO := Lib.hid (qRows wr _ _ _ _ _ _ _ _ (HQ3.out.new hK))
    clear hRB
    by_cases hlt' : k < m
    · obtain ⟨X, hX⟩ : ∃ X, LL[k]? = some X := ⟨_, List.getElem?_eq_getElem (by rw [HLL.out]; exact hlt')⟩
      have hXp := HXX.out X (List.mem_of_getElem? hX)
      have HT := Lib.hid (show ((LL.take (k + 1)).map fun X => nv (X.map (eOut e))) = ((LL.take k).map fun X => nv (X.map (eOut e))) ++ [nv (X.map (eOut e))] by rw [List.take_add_one, hX]; simp)
      have HRW := Lib.hid (qRow e he wr (w.heap.size + 1 + 1 + eW e) (w.heap.size + 1) n nb m (m * nb) cs3 X k (fun p j => pfin (eW e) m nb n (fun r => (LL.getD r []).map (eBits e)) (p * (m * nb) + j)) hlt' hm hn hnb rfl (HQ3.out.new hK) (HP3.out.new hK) hXp.1 hXp.2 (fun p t hp ht => by
        have h := plane_get (W := eW e) (m := m) (nb := nb) (n := n) (q := fun r => (LL.getD r []).map (eBits e)) (r := k) (p := p) (k := t) hlt' ht hnb
        rw [h]
        have hXt : X[t]? = some (X[t]'(by rw [hXp.1]; exact ht)) := List.getElem?_eq_getElem _
        simp [hX, hXt]) (fun p j => pb_lt _ _ _ _ _))
      have HXL := Lib.hid hXp.1
      clear hX hXp
      have l1 : (k : Int) < (m : Int) := by omega
      go_wp2_with fail
      refine HRO.out.mono ?_
      rintro e' w4 ⟨rfl, rfl⟩
      go_wp2_with fail
      refine HRW.out.mono ?_
      rintro e' w5 ⟨gv, rfl, hgv, hWv, K5⟩
      have HTU := Lib.hid (turnedF w5 (some ⟨gv, 0, none⟩) n n (fun k => eOut e (X.getD k 0)) ⟨by rw [Array.length_toList, gcells_size, Nat.mul_one], fun _ => ⟨_, rfl, hWv.lt, fun j u hu => by rw [add_lit', Nat.zero_add, hWv.cell j, ← Array.getElem?_toList]; exact hu⟩⟩ (by omega))
      have HK5 := Lib.hid K5
      clear hWv K5
      go_wp2_with fail
      refine HTU.out.mono ?_
      rintro e' w6 ⟨B, cb, rfl, hX5, K6⟩
      rw [range_getD HXL.out] at hX5
      have K45 := HK5.out.trans K6 (fun _ _ h => h)
      have hK5 := hK.trans K45 (fun _ _ h => h)
      have hKa := hK5.alloc (.cells #[.slice B n cb] 35)
      have K5a := (Keeps.refl (fun _ => False) w6).alloc (.cells #[.slice B n cb] 35)
      have howna := own_keeps (own_keeps hown K45 (fun _ _ h => h)) K5a (fun _ _ h => h)
      have hXa := own_keeps hX5 K5a (fun _ _ h => h)
      have hs5 := hK5.size
      have hs45 := K45.size
      have hs56 := HK5.out.size
      clear hX5 K6
      go_wp2_with (at_builtin
                   refine wpList_append_rd _ rfl (.tmp 38) (.tmp 43) _ rfl w3.heap.size 35 i0 _ 1 24 Try.underlying22 hi0 hz0 hz1 hz2 rfl Nat.one_pos T ct k _ rfl howna (some ⟨w6.heap.size, 0, none⟩) 1 1 [.slice B n cb] rfl (rd_cell w6 35 _) (by intro u hu; rw [List.mem_singleton.1 hu]; rfl) (by simp only [maxLen]; omega) (by omega) hKa.size ?_
                   intro A3 c3 w7 hown3 hg3 hat3)
      have hK6 := hKa.grown hg3 (fun i hi => .inr (howna.lt i (by rw [ownBlock_slice]; exact hi)).1)
      have hlx : (nv (X.map (eOut e))).length = n := by rw [nv, List.length_map, List.length_map, HXL.out]
      have hRB3 := (((HRB.out.keeps K45).keeps K5a).snoc (xs := nv (X.map (eOut e))) (B := B) (d := cb) (by rw [hlx]; exact Rd.own hXa) (fun q hq => by
        have h1 := hXa.lt q (by rw [ownBlock_slice]; exact hq)
        refine ⟨h1.2, fun e => ?_⟩
        have := HA1.out q e
        have := h1.1
        omega) hg3 hat3)
      rw [hlx, ← HT.out] at hRB3
      go_roundw
      case rel => exact ⟨k + 1, A3, c3, _, by omega, rfl, by go_num, hown3, hRB3, (fun v hv q hq => by
        rcases List.mem_append.1 hv with hv | hv
        · exact HLow.out v hv q hq
        · rw [List.mem_singleton.1 hv] at hq
          have := (hXa.lt q hq).1
          omega), hK6⟩
      case measure => (first | (simp [RowKit.intOf]; done) | (simp [RowKit.intOf]; omega))
    · have hkn : k = m := by omega
      subst hkn
      have hrb := HRB.out
      rw [List.take_of_length_le (by rw [HLL.out]; exact Nat.le_refl _)] at hrb
      have HRB := Lib.hid hrb
      have HO := Lib.hid hown
      have HKK := Lib.hid hK
      clear hrb hown
      go_wp2_with fail
      refine HRO.out.mono ?_
      rintro e' w4 ⟨rfl, rfl⟩
      have HLE := Lib.hid (leftOf wr _ _ _ _ _ rest (HR3.out.new HKK.out))
      have hb4 := HB3.out.keeps HKK.out (fun h => h)
      have hlt4 := hb4.lt
      have hcb : wr.cell? ⟨w.heap.size, 0, none⟩ = some (.bool false) := hb4.cell 0
      have hfz : wr.frozen? ⟨w.heap.size, 0, none⟩ = false := hb4.frozen 0
      clear hb4
      go_wp2_with fail
      refine HLE.out.mono ?_
      rintro e' w5 ⟨rfl, rfl⟩
      go_wp2
      refine leaves_cons (f := 12) (args := #[.pointer (some ⟨w.heap.size, 0, none⟩)]) (by simp) (by simp [go_sem]) ?_
      refine (caughtIdle ⟨w.heap.size, 0, none⟩ _).mono ?_
      rintro e2 u' w'' ⟨rfl, rfl, rfl⟩
      have hb' : (wr.setCell ⟨w.heap.size, 0, none⟩ (.bool true)).cell? ⟨w.heap.size, 0, none⟩ = some (.bool true) := by
        exact World.cell?_setCell_same _ _ _ hcb
      simp [Leaves, settle, results, Try.results7, go_sem, hb']
      have K5 := (Keeps.refl (fun i => i = w.heap.size) wr).setCell (p := ⟨w.heap.size, 0, none⟩) (.inl rfl) (.bool true)
      have hs3' := HS3.out
      have hto : ∀ q, ob T = some q → w3.heap.size ≤ q := fun q hq => (HO.out.lt q (by rw [ownBlock_slice]; exact hq)).1
      have ho5 := own_keeps HO.out K5 (fun q hq h => by
        rw [ownBlock_slice] at hq
        have := hto q hq
        omega)
      have hml : (LL.map fun X => X.map (eOut e)).length = k := by rw [List.length_map, HLL.out]
      refine ⟨T, ct, VS, ?_, ?_, ?_, fun v hv q hq => by have := HLow.out v hv q hq; omega, ?_⟩
      · rw [hml]
      · rw [hml]; exact own_base_le ho5 (by omega)
      · rw [List.map_map]
        exact HRB.out.apart2 K5 (fun v hv q hq h => by
          have := HLow.out v hv q hq
          omega)
      · exact (HK3.out.trans HKK.out (fun i hi h => h.elim)).trans K5 (fun i hi h => by omega)
end Go.Proofs.Ytfkokngjclaikaa
