/- The walk of the law on columns of strings and texts put one by one. Conditions: lengths that an argument can have. -/
import Derived.Test.YtkgjchfbbpabpaaGreatFl
import Derived.Test.YtkgjchfbbpabpaaGreatPm
import Derived.Test.YtkgjchfbbpabpaaGreatAx
import Derived.Test.YtkgjchfbbpabpaaGreatEq
namespace Go.Proofs.YtkgjchfbbpabpaaGreat
open Go.RowKit Go.Lib
set_option linter.unusedVariables false
theorem infoPrimE : (Tryz.prog.info? 49).map (fun i => (i.zero, i.size, i.bytes)) = some (some (.agg #[.int .i64 0, .int .u64 0, .int .u64 0, .slice none 0 0]), 4, 48) := by kernel_rfl
theorem flat_boundX {α : Type} (m : Nat) : ∀ (LL : List (List α)), (∀ L ∈ LL, L.length ≤ m) → LL.flatten.length ≤ LL.length * m
  | [], _ => by simp
  | L :: r, h => by
    have h1 := h L (List.mem_cons_self ..)
    have h2 := flat_boundX m r fun X hX => h X (List.mem_cons_of_mem _ hX)
    rw [List.flatten_cons, List.length_append, List.length_cons, Nat.add_mul, Nat.one_mul]
    omega
theorem encB_boundX (L : List (List UInt8)) (h : ∀ l ∈ L, l.length ≤ 60) : (encB L).length ≤ L.length * 70 := by
  rw [encB]
  refine Nat.le_trans (flat_boundX 70 _ fun l hl => ?_) (by rw [List.length_map]; exact Nat.le_refl _)
  obtain ⟨x, hx, rfl⟩ := List.mem_map.1 hl
  have h1 := h x hx
  have := Lib.uvarint_length64 (x := x.length) (by omega)
  rw [List.length_append]
  omega
theorem flB_small (LL : List (List ByteArray)) (h : FewP LL) : (flB LL).length ≤ 240 ∧ (∀ l ∈ flB LL, l.length ≤ 60) ∧ (encB (flB LL)).length ≤ 16800 := by
  have h1 : LL.flatten.length ≤ 240 := Nat.le_trans (flat_boundX 12 _ fun L hL => (h.2 L hL).1) (by have := h.1; omega)
  have h2 : ∀ l ∈ flB LL, l.length ≤ 60 := fun l hl => by
    obtain ⟨x, hx, rfl⟩ := List.mem_map.1 hl
    obtain ⟨L, hL, hm⟩ := List.mem_flatten.1 hx
    rw [sl_length]; exact (h.2 L hL).2 x hm
  have h3 : (flB LL).length ≤ 240 := by rw [flB, List.length_map]; exact h1
  exact ⟨h3, h2, Nat.le_trans (encB_boundX _ h2) (by omega)⟩
theorem prim_step {VV : List Value} {k : Nat} {v : Value} (h : VV[k]? = some v) : primC (VV.take k) ++ [.int .i64 18, .int .u64 0, .int .u64 0, v] = primC (VV.take (k + 1)) := by
  rw [List.take_add_one, h, ← primC_snoc]; rfl
set_option maxRecDepth 100000 in
theorem wxText (w : World) (V : Option Addr) (nv cv : Nat) (LB : List (List UInt8)) (hl : LB.length = nv) (hR : RowsV w V (LB.map Lib.byteCells)) (hn : nv ≤ 240) (hx : ∀ l ∈ LB, l.length ≤ 60) (hb : (encB LB).length ≤ 16800) :
    Calls Tryz.prog 19 #[.slice V nv cv] w fun e w' => EncRes w (encB LB) e w' := by
  have HS := Lib.hid (stEncode0 w V nv cv LB hl hR (by omega) (fun l hl => by have := hx l hl; omega) (by omega))
  clear hl hR hx hb
  generalize encB LB = l at *
  go_enter Tryz.func19, Tryz.ntmps19
  go_wp2_with fail
  refine HS.out.mono ?_
  rintro e w2 ⟨A, c, rfl, ho, K⟩
  go_wp2_with fail
  go_ret
  exact ⟨A, c, rfl, ho, K⟩

set_option maxRecDepth 100000 in
set_option maxHeartbeats 4000000 in
theorem xStrings (w : World) (A : Option Addr) (n c : Nat) (LL : List (List ByteArray)) (hl : LL.length = n) (hR : RowsOf w A LL) (hi : ∀ X ∈ LL, X.length ≤ 9223372036854775807) (hn : n ≤ 9223372036854775807) :
    Calls Tryz.prog 5 #[.slice A n c] w fun e w' => e = .returned (.bool true) ∧ Below w.heap.size w w' := by
  obtain ⟨p0, hp0, hx0, hx1, hx2⟩ := info_parts infoPrimE
  have HF := Lib.hid (fits1 w A n c LL hl hR hi hn)
  have HW := Lib.hid (wxFew w A n c LL hl hR hn)
  have HFL := Lib.hid (fun h => wxFlat w A n c LL hl hR h)
  have HSM := Lib.hid (fun h => flB_small LL h)
  clear hl hR hi hn
  go_enter Tryz.func5, Tryz.ntmps5
  go_wp2_with fail
  refine HF.out.mono ?_
  rintro e wq ⟨⟨b, rfl⟩, rfl⟩
  cases b with
  | false =>
    go_wp2_with fail
    go_ret
    exact ⟨rfl, Below.refl _ _⟩
  | true =>
    go_wp2_with fail
    refine HW.out.mono ?_
    rintro e w2 ⟨b, rfl, hb, rfl⟩
    have HB := Lib.hid hb
    clear hb
    cases b with
    | false =>
      go_wp2_with fail
      go_ret
      exact ⟨rfl, Below.refl _ _⟩
    | true =>
      have hfew := HB.out rfl
      obtain ⟨s1, s2, s3⟩ := HSM.out hfew
      have HFL2 := Lib.hid (HFL.out hfew)
      clear hfew
      generalize flB LL = LB at *
      have HS2 := Lib.hid s2
      clear s2
      go_wp2_with fail
      refine HFL2.out.mono ?_
      rintro e w3 ⟨V, nv, cv, VV, E, ne, ce, rfl, hoV, hbV, K3⟩
      have hvn : VV.length = nv := by have := hoV.1; omega
      have hln : LB.length = nv := by have := hbV.1; omega
      have HOV := Lib.hid hoV
      have HBV := Lib.hid hbV
      have HK3 := Lib.hid K3
      have HVN := Lib.hid hvn
      have HLN := Lib.hid hln
      have hnv : nv ≤ 240 := by omega
      clear hoV hbV K3 hvn hln s1
      go_wp2_with fail
      go_loopw [5, 7, 21] (fun q _ i wr => ∃ (k : Nat) (Q : Option Addr) (cq : Nat), k ≤ nv ∧ i = .int .i64 k ∧ q = .slice Q k cq ∧ wr.ownsRow w3.heap.size 49 4 (.slice Q k cq) k (primC (VV.take k)) ∧ Keeps (fun _ => False) w3 wr) (fun _ _ i _ => nv - (RowKit.intOf i).toNat)
      case atStart => exact ⟨0, none, 0, Nat.zero_le _, rfl, rfl, World.ownsRow_nil _ _ _ _, Keeps.refl _ _⟩
      case round =>
        obtain ⟨k, Q, cq, hk, rfl, rfl, hoQ, hKq⟩ := hrel
        have HOQ := Lib.hid hoQ
        have HKQ := Lib.hid hKq
        clear hoQ hKq
        by_cases hlt : k < nv
        · obtain ⟨l, hl⟩ : ∃ l, LB[k]? = some l := ⟨_, List.getElem?_eq_getElem (by rw [HLN.out]; exact hlt)⟩
          obtain ⟨b, d, hvb, _, _⟩ := HBV.out.2 k l hl
          obtain ⟨ad, u, rfl, hb2, hu, hcell⟩ := ((Rd.own HOV.out).keeps HKQ.out (fun _ _ h => h)).at' hlt
          rw [hvb] at hu
          injection hu with hu
          subst hu
          have HT := Lib.hid (prim_step hvb)
          clear hvb hl
          generalize l.length = ll at *
          have Ka := (Keeps.refl (fun _ => False) wr).alloc (.cells #[.int .i64 18, .int .u64 0, .int .u64 0, .slice (some ⟨b, 0, none⟩) ll d] 49)
          have hoa := own_keeps HOQ.out Ka (fun _ _ h => h)
          have hKa := HKQ.out.trans Ka (fun _ _ h => h)
          have hrd := rd_of4 wr 49 (.int .i64 18) (.int .u64 0) (.int .u64 0) (.slice (some ⟨b, 0, none⟩) ll d)
          clear Ka
          go_wp2_with (at_builtin
                       refine wpList_append_rd _ rfl (.tmp 25) (.tmp 28) _ rfl w3.heap.size 49 p0 _ 4 48 Tryz.underlying46 hp0 hx0 hx1 hx2 rfl (by omega) Q cq k _ rfl hoa (some ⟨wr.heap.size, 0, none⟩) 1 1 [.int .i64 18, .int .u64 0, .int .u64 0, .slice (some ⟨b, 0, none⟩) ll d] rfl hrd (one_of4 _ _ _ _ rfl rfl rfl rfl) (by simp only [maxLen]; omega) (by omega) hKa.size ?_
                       intro Q3 cq3 w9 o9 hg9 hat9)
          rw [HT.out] at o9
          have HO9 := Lib.hid o9
          have HK9 := Lib.hid (hKa.grown hg9 (fun i hi => .inr (hoa.lt i (by rw [ownBlock_slice]; exact hi)).1))
          clear o9 hoa hKa hrd
          go_roundw
          case rel => exact ⟨k + 1, Q3, cq3, by omega, by go_num, rfl, HO9.out, HK9.out⟩
          case measure => (first | (simp [RowKit.intOf]; done) | (simp [RowKit.intOf]; omega))
        · have hkn : k = nv := by omega
          subst hkn
          have hQ := HOQ.out
          have eT : VV.take k = VV := List.take_of_length_le (by rw [HVN.out]; exact Nat.le_refl _)
          rw [eT] at hQ
          have HQ := Lib.hid hQ
          have hbVr := HBV.out.keeps HKQ.out (fun _ _ h => h)
          have hoVr := own_keeps HOV.out HKQ.out (fun _ _ h => h)
          have HWT := Lib.hid (wxText wr V k cv LB HLN.out (hbVr.rows hoVr) hnv HS2.out s3)
          have HPP := Lib.hid (fun w5 (K : Keeps (fun _ => False) wr w5) => prPutMany w5 w3.heap.size Q k cq VV LB (own_keeps HQ.out K (fun _ _ h => h)) (hbVr.keeps K (fun _ _ h => h)) (by omega) (fun l hl => by have := HS2.out l hl; omega) (by omega))
          have HAW := Lib.hid prAwake
          clear hQ eT hbVr hoVr s3
          generalize encB LB = dd at *
          generalize hnd : dd.length = nd at *
          have HND := Lib.hid hnd
          clear hnd
          go_wp2_with fail
          refine HWT.out.mono ?_
          rintro e w5 ⟨A5, c5, he, o5, K5⟩
          rw [HND.out] at he o5
          subst he
          have HO5 := Lib.hid (Rd.own o5)
          have HK5 := Lib.hid K5
          clear o5 K5
          go_wp2_with fail
          refine (HPP.out w5 HK5.out).mono ?_
          rintro e w6 ⟨A6, c6, he, o6, K6⟩
          rw [HND.out] at he o6
          subst he
          have HE := Lib.hid (bytesEq w6 A5 A6 nd c5 nd c6 dd dd (HO5.out.keeps K6 (fun _ _ h => h)) (Rd.own o6))
          rw [decide_eq_true (rfl : dd = dd)] at HE
          have HK6 := Lib.hid (((HK3.out.trans HKQ.out (fun _ _ h => h)).trans HK5.out (fun _ _ h => h)).trans K6 (fun _ _ h => h))
          clear o6 K6
          go_wp2_with fail
          refine HE.out.mono ?_
          rintro e w7 ⟨rfl, rfl⟩
          go_wp2_with fail
          refine (HAW.out w6).mono ?_
          rintro e w8 ⟨rfl, K8⟩
          have HK8 := Lib.hid (HK6.out.trans K8 (fun _ _ h => h))
          clear K8
          go_wp2_with fail
          go_ret
          exact ⟨rfl, HK8.out.below (Nat.le_refl _) (fun _ h => h.elim)⟩
end Go.Proofs.YtkgjchfbbpabpaaGreat
