/- The walk of the law on the block's head. -/
import Derived.Test.YtllokbblmdadnaaBiGet
import Derived.Test.YtllokbblmdadnaaLow
import Derived.Test.YtllokbblmdadnaaEq
namespace Go.Proofs.Ytllokbblmdadnaa
open Go.RowKit
theorem biBytes_length (o : Bool) (x : Nat) : (biBytes o x).length = 8 := by simp [biBytes, leb_length]
theorem leNat_leb4 (x : Nat) : Lib.leNat (leb 4 x) = x % 4294967296 := by
  simp only [Lib.leNat, leb, UInt8.toNat_ofNat']
  omega

theorem own_cap {w : World} {base n c size k : Nat} {e : TypeId} {A : Option Addr} {xs : List Value} (h : w.ownsRow base e size (.slice A n c) k xs) : k ≤ c := by
  rcases h.2 with ⟨h', h0⟩ | ⟨g', cap', cur, h', _, _, hnc, _⟩
  · injection h' with h1 h2 h3
    omega
  · injection h' with h1 h2 h3
    omega
theorem Rd.first {w : World} {n k : Nat} {A : Option Addr} {xs : List Value} (h : Rd w 1 A n xs) (hk : k ≤ n) : Rd w 1 A k (xs.take k) := by
  refine ⟨by rw [List.length_take, h.1]; omega, fun hn => ?_⟩
  obtain ⟨ad, rfl, hb, hc⟩ := h.2 (by omega)
  refine ⟨ad, rfl, hb, fun j u hu => hc j u ?_⟩
  rw [List.getElem?_take] at hu
  split at hu
  · exact hu
  · cases hu
theorem byteCells_take (l : List UInt8) (k : Nat) : (Lib.byteCells l).take k = Lib.byteCells (l.take k) := by simp only [Lib.byteCells, List.map_take]

set_option maxHeartbeats 400000 in
theorem pkCut (w : World) (A : Option Addr) (c n m : Nat) (hn : 0 < n) (hc : n ≤ c) (hm : m < 65536) :
    Calls Try.prog 52 #[.slice A n c, .int .u16 m] w fun e w' => e = .returned (.slice A (m % n) c) ∧ w = w' := by
  have h1 : IntKind.i64.wrap (m : Int) = m := by rw [IntKind.wrap_i64]; omega
  have h2 : (m : Int).tmod n = ((m % n : Nat) : Int) := by rw [Int.tmod_eq_emod_of_nonneg (by omega)]; simp
  have h3 : m % n < n := Nat.mod_lt _ hn
  generalize m % n = q at h2 h3
  have h4 : (n : Int) ≠ 0 := by omega
  have h5 : (q : Int) ≤ c := by omega
  have h6 : (0 : Int) ≤ (m : Int) := by omega
  go_enter Try.func52, Try.ntmps52
  go_wp2
  go_ret
  exact ⟨rfl, rfl⟩

set_option maxRecDepth 100000 in
set_option maxHeartbeats 2000000 in
theorem bkinfo (a0 : Bool) (a1 : Int) (A : Option Addr) (n c m : Nat) (l : List UInt8) (w : World) (h1 : -2147483648 ≤ a1) (h2 : a1 ≤ 2147483647) (hl : l.length = n) (hR : Rd w 1 A n (Lib.byteCells l)) (hm : m < 65536) :
    Calls Try.prog 14 #[.bool a0, .int .i32 a1, .slice A n c, .int .u16 m] w fun e w' => e = .returned (.bool true) ∧ Below w.heap.size w w' := by
  by_cases hbig : 2147483647 < n
  · have hbig' : (2147483647 : Int) < n := by omega
    go_enter Try.func14, Try.ntmps14
    go_wp2_with fail
    go_ret
    exact ⟨rfl, Below.refl _ _⟩
  · have hbig' : ¬ (2147483647 : Int) < n := by omega
    obtain ⟨x, hx⟩ : ∃ x : Nat, IntKind.u32.wrap a1 = (x : Int) := ⟨(a1 % 4294967296).toNat, by have h : IntKind.u32.wrap a1 = a1 % 4294967296 := rfl; omega⟩
    obtain ⟨u, hu⟩ : ∃ x : Nat, IntKind.u64.wrap a1 = (x : Int) := ⟨(a1 % 18446744073709551616).toNat, by have h : IntKind.u64.wrap a1 = a1 % 18446744073709551616 := rfl; omega⟩
    have hx' : a1 % 4294967296 = (x : Int) := hx
    have hu' : a1 % 18446744073709551616 = (u : Int) := hu
    have hxu : leb 4 u = leb 4 x := leb4_congr _ _ (by omega)
    have hbi : biBytes a0 u = biBytes a0 x := by simp only [biBytes, hxu]
    have hval : IntKind.i32.wrap (Lib.leNat (leb 4 x)) = a1 := by rw [leNat_leb4, IntKind.wrap_i32]; omega
    have hw64 : IntKind.i64.wrap a1 = a1 := by rw [IntKind.wrap_i64]; omega
    obtain ⟨i0, hi0, hz0, hz1, hz2⟩ := info_parts infoU8
    have hlen := biBytes_length a0 x
    have HX := Lib.hid hx
    have HU := Lib.hid hu
    have HBI := Lib.hid hbi
    have HV := Lib.hid hval
    clear hx hu hx' hu' hxu hbi hval
    by_cases h9 : 9 < n
    · have h9' : (9 : Int) < n := by omega
      go_enter Try.func14, Try.ntmps14
      go_wp2_with fail
      refine (biPut w a0 a1 x HX.out h1 h2).mono ?_
      rw [hlen]
      rintro e w1 ⟨A1, c1, rfl, hown1, hK1, hA1⟩
      go_wp2_with fail
      go_ret
      exact ⟨rfl, hK1.below (Nat.le_refl _) (fun _ h => h.elim)⟩
    · have h9' : ¬ (9 : Int) < n := by omega
      go_enter Try.func14, Try.ntmps14
      go_wp2_with fail
      refine (biPut w a0 a1 x HX.out h1 h2).mono ?_
      rw [hlen]
      rintro e w1 ⟨A1, c1, rfl, hown1, hK1, hA1⟩
      have hcl := cloneB w1 A1 c1 (biBytes a0 x) (by rw [hlen]; exact Rd.own hown1) (by omega)
      rw [hlen] at hcl
      go_wp2_with fail
      refine hcl.mono ?_
      clear hcl
      rintro e w2 ⟨A2, c2, rfl, hown2, hK2, hA2⟩
      have hK12 := hK1.trans hK2 (fun _ _ h => h)
      have hR2 := hR.keeps hK12 (fun _ _ h => h)
      go_wp2_with (first
        | (at_builtin
           refine wpList_append_rd _ rfl (.tmp 38) (.tmp 39) _ rfl w1.heap.size 5 i0 _ 1 1 Try.underlying48 hi0 hz0 hz1 hz2 rfl Nat.one_pos A2 c2 8 _ rfl hown2 A n c (Lib.byteCells l) rfl hR2 (byteCells_one _) (by simp only [maxLen]; omega) (by omega) hK2.size ?_
           intro A3 c3 w3 hown3 hg3 hat3
           have hK3 := hK12.grown hg3 (fun k hk => .inr (by have := hA2 k hk; have := hK1.size; omega))
           rw [← Lib.byteCells_append] at hown3
           have hlen3 : (biBytes a0 x ++ l).length = 8 + n := by rw [List.length_append, hlen, hl]
           have hget := biGet_ok w3 A3 c3 a0 (leb 4 x) l (biBytes a0 x ++ l) (leb_length _ _) (by simp [biBytes]) (by rw [hlen3]; exact Rd.own hown3) (by rw [hlen3]; exact own_cap hown3) (fun i hi => (hown3.lt i (by rw [ownBlock_slice]; exact hi)).2)
           rw [hlen3, HV.out, hl] at hget)
        | (go_at_call 50; refine hget.mono ?_; clear hget))
      rintro e w4 ⟨rfl, hK4⟩
      have hK14 := hK3.trans hK4 (fun _ _ h => h)
      have hown4 := own_keeps (own_keeps hown1 (hK2.grown hg3 (fun k hk => .inr (by have := hA2 k hk; omega))) (fun _ _ h => h)) hK4 (fun _ _ h => h)
      go_wp2_with fail
      refine (pkCut w4 A1 c1 8 m (by omega) (own_cap hown1) hm).mono ?_
      rintro e w5 ⟨rfl, rfl⟩
      have hm8 : m % 8 < 8 := Nat.mod_lt _ (by omega)
      have hlen5 : ((biBytes a0 x).take (m % 8)).length = m % 8 := by rw [List.length_take, hlen]; omega
      have hget2 := biGet_err w4 A1 c1 a0 (leb 4 x) ((biBytes a0 x).take (m % 8)) (m % 8) (leb_length _ _) hm8 (by simp [biBytes]) (by rw [hlen5, ← byteCells_take]; exact (Rd.own hown4).first (by omega)) (by rw [hlen5]; have := own_cap hown1; omega) (fun i hi => (hown4.lt i (by rw [ownBlock_slice]; exact hi)).2)
      rw [hlen5] at hget2
      go_wp2_with fail
      refine hget2.mono ?_
      clear hget2
      rintro e w6 ⟨rfl, hK6⟩
      have hK16 := hK14.trans hK6 (fun _ _ h => h)
      have hown6 := own_keeps hown4 hK6 (fun _ _ h => h)
      have hsp := bkInfo w6 a0 a1 u HU.out
      rw [HBI.out] at hsp
      go_wp2_with (first
        | (go_at_call 53
           refine hsp.mono ?_
           clear hsp
           rintro e w7 ⟨A7, c7, rfl, hown7, hK7, hA7⟩
           have hK17 := hK16.trans hK7 (fun _ _ h => h)
           have hown71 := own_keeps hown6 hK7 (fun _ _ h => h))
        | (go_at_call 48
           refine (bytesEq _ _ _ _ _ _ _ (biBytes a0 x) (biBytes a0 x) (Rd.own hown71) (Rd.own hown7)).mono ?_
           rintro e w8 ⟨he, rfl⟩
           rw [decide_eq_true rfl] at he
           subst he))
      go_ret
      exact ⟨by cases a0 <;> rfl, hK17.below (Nat.le_refl _) (fun _ h => h.elim)⟩
end Go.Proofs.Ytllokbblmdadnaa
