/- Texts put one by one. Conditions: sizes far below the machine's. -/
import Derived.Test.YtkgjchfbbpabpaaGreatDk
import Derived.Test.YtkgjchfbbpabpaaGreatEncC
namespace Go.Proofs.YtkgjchfbbpabpaaGreat
open Go.RowKit Go.Lib
set_option linter.unusedVariables false
theorem primPut18 (w : World) (base bb : Nat) (X : Option Addr) (cx : Nat) (l : List UInt8) (B : Option Addr) (m d : Nat) (lb : List UInt8) (hB : BufAt w base bb X cx l) (hR : Rd w 1 B m (Lib.byteCells lb)) (hn : l.length ≤ 1000000) (hm : lb.length ≤ 1000000) :
    Calls Tryz.prog 35 #[.agg #[.int .i64 18, .int .u64 0, .int .u64 0, .slice B m d], .pointer (some ⟨bb, 0, none⟩)] w fun e w' => ∃ A' c', e = .returned (.tuple #[]) ∧ Put w w' base bb X A' c' (l ++ (Lib.uvarint lb.length ++ lb)) := by
  have hlt := hB.blk.lt
  have h0 : Keeps (fun _ => False) w (w.alloc (.cells #[.int .i64 18, .int .u64 0, .int .u64 0, .slice B m d] 49)) := (Keeps.refl _ _).alloc _
  have hcv := cv_tx (c := d) (hR.keeps h0 (fun _ _ h => h))
  have hsz : (⟨lb.toArray⟩ : ByteArray).size = lb.length := by rw [← sl_length, sl_arr]
  have hsb : strB ⟨lb.toArray⟩ = Lib.uvarint lb.length ++ lb := by rw [strB, hsz, sl_arr]
  have HS := Lib.hid hsb
  have HP := Lib.hid (putString _ base bb X cx l ⟨lb.toArray⟩ (hB.keeps h0 (fun h => h) (fun _ _ h => h)) hn (by rw [hsz]; omega))
  have H0 := Lib.hid h0
  clear hB hR h0 hsz hsb
  go_enter Tryz.func35, Tryz.ntmps35
  go_wp2_with fail
  refine HP.out.mono ?_
  rintro e w1 ⟨A', c', rfl, hP⟩
  rw [HS.out] at hP
  go_wp2_with fail
  go_end0
  exact ⟨A', c', rfl, hP.behind H0.out⟩
theorem own_capP {w : World} {base n c s : Nat} {e : TypeId} {A : Option Addr} {xs : List Value} (h : w.ownsRow base e s (.slice A n c) n xs) : n ≤ c ∧ (0 < n → ∃ g, A = some ⟨g, 0, none⟩) := by
  rcases h.2 with ⟨hv, h0⟩ | ⟨g, cap, cur, hv, hb, hg, h1, h2, h3, h4⟩
  · injection hv with hA hN hC
    subst hC h0
    exact ⟨Nat.le_refl _, fun h => absurd h (by omega)⟩
  · injection hv with hA hN hC
    subst hC hA
    exact ⟨h1, fun _ => ⟨g, rfl⟩⟩
/-- The cells of values that put texts. -/
def primC : List Value → List Value
  | [] => []
  | v :: r => .int .i64 18 :: .int .u64 0 :: .int .u64 0 :: v :: primC r
theorem primC_length : ∀ L : List Value, (primC L).length = L.length * 4
  | [] => rfl
  | v :: r => by rw [primC, List.length_cons, List.length_cons, List.length_cons, List.length_cons, primC_length, List.length_cons]; omega
theorem primC_snoc : ∀ (L : List Value) (v : Value), primC (L ++ [v]) = primC L ++ [.int .i64 18, .int .u64 0, .int .u64 0, v]
  | [], v => rfl
  | a :: r, v => by rw [List.cons_append, primC, primC_snoc, primC]; rfl
theorem primC_get : ∀ (L : List Value) (i : Nat) (v : Value), L[i]? = some v → (primC L)[i * 4]? = some (.int .i64 18) ∧ (primC L)[i * 4 + 1]? = some (.int .u64 0) ∧ (primC L)[i * 4 + 2]? = some (.int .u64 0) ∧ (primC L)[i * 4 + 3]? = some v
  | [], i, v, h => by simp at h
  | a :: r, 0, v, h => by
    simp at h
    subst h
    simp [primC]
  | a :: r, i + 1, v, h => by
    have h' : r[i]? = some v := by simpa using h
    obtain ⟨h1, h2, h3, h4⟩ := primC_get r i v h'
    rw [show (i + 1) * 4 = i * 4 + 1 + 1 + 1 + 1 by omega, primC]
    refine ⟨?_, ?_, ?_, ?_⟩
    · simpa using h1
    · simpa using h2
    · simpa using h3
    · simpa using h4

set_option maxRecDepth 100000 in
set_option maxHeartbeats 4000000 in
theorem putAll (w0 w1 : World) (base pw b0 : Nat) (Q : Option Addr) (n cq : Nat) (VV : List Value) (LB : List (List UInt8)) (hb : base = w0.heap.size) (hK : Keeps (fun _ => False) w0 w1) (hbuf : BufAt w1 base base none 0 []) (hp : Whole w0 pw 46 #[.slice Q n cq]) (hQ : w0.ownsRow b0 49 4 (.slice Q n cq) n (primC VV)) (hV : BytesAt w0 VV LB) (hn : n ≤ 10000) (hl : ∀ l ∈ LB, l.length ≤ 1000) (hs : (encB LB).length ≤ 1000000) :
    Calls Tryz.prog 34 (#[.pointer (some ⟨base, 0, none⟩)] ++ #[.pointer (some ⟨pw, 0, none⟩)]) w1 fun e w2 => e = .returned (.tuple #[]) ∧ ∃ A c, Put w1 w2 base base none A c (encB LB) := by
  have hp1 := hp.keeps hK (fun h => h)
  have hpc : w1.cell? ⟨pw, 0, none⟩ = some (.slice Q n cq) := hp1.cell 0
  have hltp := hp1.lt
  have hVn : VV.length = n := by have := hQ.1; rw [primC_length] at this; omega
  have HB := Lib.hid hbuf
  have HQ := Lib.hid hQ
  have HV := Lib.hid hV
  have HL := Lib.hid hl
  have HS := Lib.hid (fun k => Nat.le_trans (encB_le LB k) hs)
  have HK := Lib.hid hK
  have HVN := Lib.hid hVn
  have HBS := Lib.hid hb
  clear hbuf hQ hV hl hs hK hVn hp hp1 hb
  show Calls Tryz.prog 34 #[.pointer (some ⟨base, 0, none⟩), .pointer (some ⟨pw, 0, none⟩)] w1 _
  go_enter Tryz.func34, Tryz.ntmps34
  go_wp2_with fail
  go_loopw [4, 7] (fun _ i wr => ∃ (k : Nat) (A1 : Option Addr) (c1 : Nat), k ≤ n ∧ i = .int .i64 k ∧ Put w1 wr base base none A1 c1 (encB (LB.take k))) (fun _ i _ => n - (RowKit.intOf i).toNat)
  case atStart => exact ⟨0, none, 0, Nat.zero_le _, rfl, Put.refl HB.out⟩
  case round =>
    obtain ⟨k, A1, c1, hk, rfl, hP⟩ := hrel
    have HP := Lib.hid hP
    clear hP
    have kB : Keeps (fun i => base ≤ i) w0 wr := (HK.out.mono (S' := fun i => base ≤ i) (fun _ _ h => h.elim)).trans HP.out.keeps (fun i hi h => by
      rcases h with h | h
      · omega
      · cases h)
    by_cases hlt : k < n
    · obtain ⟨v, hv⟩ : ∃ v, VV[k]? = some v := ⟨_, List.getElem?_eq_getElem (by rw [HVN.out]; exact hlt)⟩
      obtain ⟨l, hl⟩ : ∃ l, LB[k]? = some l := ⟨_, List.getElem?_eq_getElem (by rw [← HV.out.1, HVN.out]; exact hlt)⟩
      obtain ⟨b, d, hvb, hRb, hTb⟩ := HV.out.2 k l hl
      rw [hv] at hvb
      injection hvb with hvb
      subst hvb
      obtain ⟨gQ, rfl⟩ := (own_capP HQ.out).2 (by omega)
      obtain ⟨ad, e2, hb2, hcc⟩ := (Rd.own HQ.out).2 (by omega)
      injection e2 with e2
      subst e2
      obtain ⟨p0, p1, p2, p3⟩ := primC_get VV k _ hv
      have hgQ : gQ < base := by have := HBS.out; exact this ▸ hb2
      have up : ∀ (j : Nat) (u : Value), w0.cell? ⟨gQ, j, none⟩ = some u → wr.cell? ⟨gQ, j, none⟩ = some u := fun j u hu => (kB.cell (p := ⟨gQ, j, none⟩) hb2 (by show ¬ base ≤ gQ; omega)).trans hu
      have q0 := up _ _ (by have := hcc _ _ p0; rwa [add_lit', Nat.zero_add] at this)
      have q1 := up _ _ (by have := hcc _ _ p1; rwa [add_lit', Nat.zero_add] at this)
      have q2 := up _ _ (by have := hcc _ _ p2; rwa [add_lit', Nat.zero_add] at this)
      have q3 := up _ _ (by have := hcc _ _ p3; rwa [add_lit', Nat.zero_add] at this)
      have hbl : b < base := by have := HBS.out; exact this ▸ hTb.lt
      have hRr := hRb.keeps kB (fun z hz h => by simp [ob] at hz; subst hz; omega)
      have Ka := (Keeps.refl (fun _ => False) wr).alloc (.cells #[.int .i64 18, .int .u64 0, .int .u64 0, .slice (some ⟨b, 0, none⟩) l.length d] 49)
      have HE := Lib.hid (show encB (LB.take k) ++ (Lib.uvarint l.length ++ l) = encB (LB.take (k + 1)) by rw [encB_step hl]; simp)
      have hlm := HL.out l (List.mem_of_getElem? hl)
      have HPP := Lib.hid (primPut18 _ base base A1 c1 (encB (LB.take k)) (some ⟨b, 0, none⟩) l.length d l (HP.out.at'.keeps Ka (fun h => h) (fun _ _ h => h)) (hRr.keeps Ka (fun _ _ h => h)) (HS.out k) (by omega))
      have HKA := Lib.hid Ka
      clear p0 p1 p2 p3 hcc up hv hl hRb hRr kB Ka
      generalize l.length = ll at *
      go_wp2_with fail
      refine HPP.out.mono ?_
      rintro e w3 ⟨A3, c3, rfl, hP3⟩
      rw [HE.out] at hP3
      have HP3 := Lib.hid (HP.out.trans (hP3.behind HKA.out))
      clear hP3
      go_wp2_with fail
      go_roundw
      case rel => exact ⟨k + 1, A3, c3, by omega, by go_num, HP3.out⟩
      case measure => (first | (simp [RowKit.intOf]; done) | (simp [RowKit.intOf]; omega))
    · have hkn : k = n := by omega
      subst hkn
      have hP := HP.out
      rw [List.take_of_length_le (by rw [← HV.out.1, HVN.out]; exact Nat.le_refl _)] at hP
      have HP2 := Lib.hid hP
      clear hP
      go_wp2_with fail
      go_end0
      exact ⟨rfl, A1, c1, HP2.out⟩
set_option maxRecDepth 100000 in
set_option maxHeartbeats 2000000 in
theorem prPutMany (w : World) (b0 : Nat) (Q : Option Addr) (n cq : Nat) (VV : List Value) (LB : List (List UInt8)) (hQ : w.ownsRow b0 49 4 (.slice Q n cq) n (primC VV)) (hV : BytesAt w VV LB) (hn : n ≤ 10000) (hl : ∀ l ∈ LB, l.length ≤ 1000) (hs : (encB LB).length ≤ 1000000) :
    Calls Tryz.prog 20 #[.slice Q n cq] w fun e w' => EncRes w (encB LB) e w' := by
  have K0 := (Keeps.refl (fun _ => False) w).alloc (.cells #[.slice Q n cq] 46)
  have hp := Whole.new w 46 #[.slice Q n cq]
  have hQ0 := own_keeps hQ K0 (fun _ _ h => h)
  have hV0 := hV.keeps K0 (fun _ _ h => h)
  have HE := Lib.hid (encoded_anyC (w.alloc (.cells #[.slice Q n cq] 46)) (encB LB) 34 #[.pointer (some ⟨w.heap.size, 0, none⟩)] (fun args w => rfl) (fun w1 hbuf hK => putAll _ w1 _ w.heap.size b0 Q n cq VV LB rfl hK hbuf hp hQ0 hV0 hn hl hs))
  have HK0 := Lib.hid K0
  have hmf : ∀ (fn : Fn) (first cap : Array Value) (w : World), (Instr.makeFunc fn first cap).run Tryz.prog w = .ok (.func fn first cap) w := fun _ _ _ _ => rfl
  clear hQ hV hn hl hs K0 hp hQ0 hV0
  generalize encB LB = l at *
  go_enter Tryz.func20, Tryz.ntmps20
  go_wp2_with fail
  refine HE.out.mono ?_
  rintro e w2 ⟨A, c, rfl, ho, K2, _⟩
  go_wp2_with fail
  go_ret
  exact ⟨A, c, rfl, own_base_le ho HK0.out.size, HK0.out.trans K2 (fun _ _ h => h)⟩
end Go.Proofs.YtkgjchfbbpabpaaGreat
