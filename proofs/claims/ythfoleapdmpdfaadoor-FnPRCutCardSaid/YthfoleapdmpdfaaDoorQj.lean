/- The law of FnPRCut. Conditions: the values are there; the table of widths is laid. -/
import Derived.Test.YthfoleapdmpdfaaDoorQi
import Derived.Test.YthfoleapdmpdfaaDoorQd
import Derived.Test.YthfoleapdmpdfaaDoorQg
import Derived.Test.YthfoleapdmpdfaaDoorAx
import Derived.Deep.CutRange
import Derived.Deep.LoopGhost
import Derived.Deep.CutBlock
import Derived.Deep.RegionHeld3
namespace Go.Proofs.YthfoleapdmpdfaaDoor
open Go.RowKit Go.Lib
set_option linter.unusedVariables false
set_option maxRecDepth 100000 in
set_option maxHeartbeats 4000000 in
theorem containsNotWhole (w : World) (E : Option Addr) (n ce : Nat) (asks : List PAsk) (hE : AsksAt w E n asks) (hn : n ≤ 1000) : Calls Tryd.prog 13 #[.slice E n ce, .func (.func 14) #[] #[]] w fun e w' => (∃ b : Bool, e = .returned (.bool b) ∧ (b = false → ∀ a ∈ asks, WholeB a = true)) ∧ Keeps (fun _ => False) w w' := by
  have HI := Lib.hid (indexNotWhole w E n ce asks hE hn)
  clear hE
  go_enter Tryd.func13, Tryd.ntmps13
  go_wp2_with fail
  refine HI.out.mono ?_
  rintro e w1 ⟨⟨i, rfl, hi⟩, K1⟩
  have HK1 := Lib.hid K1
  have HI1 := Lib.hid hi
  clear K1 hi
  go_wp2_with fail
  go_ret
  exact ⟨⟨_, rfl, fun h => HI1.out (by have := of_decide_eq_false h; omega)⟩, HK1.out⟩
theorem Rd.firstQ {w : World} {size n k : Nat} {A : Option Addr} {xs : List Value} (h : Rd w size A n xs) (hk : k ≤ n) : Rd w size A k (xs.take (k * size)) := by
  have hl := h.1
  refine ⟨by rw [List.length_take, hl, Nat.min_eq_left (Nat.mul_le_mul_right _ hk)], fun h0 => ?_⟩
  obtain ⟨ad, h1, h2, h3⟩ := h.2 (by omega)
  exact ⟨ad, h1, h2, fun j u hu => h3 j u (by rw [List.getElem?_take] at hu; split at hu; exact hu; cases hu)⟩
theorem rem_bound (a L : Nat) : a % (L + 1) ≤ L := by have := Nat.mod_lt a (show 0 < L + 1 by omega); omega
set_option maxRecDepth 100000 in
set_option maxHeartbeats 8000000 in
theorem pcWalk (w : World) (hW : WidthsV w) (E : Option Addr) (n ce : Nat) (l : List PAsk) (hE : AsksAt w E n l) (hnc : n ≤ ce) (hn : n ≤ 9223372036854775807) (hl : ∀ a ∈ l, a.s.length ≤ 9223372036854775807) (hv : ∀ a ∈ l, a.u < 18446744073709551616 ∧ 0 ≤ a.v ∧ a.v < 18446744073709551616) (at0 : Nat) (hat0 : at0 < 65536) :
    Calls Tryd.prog 4 #[.slice E n ce, .int .u16 (at0 : Int)] w fun e w' => e = .returned (.bool true) ∧ Below w.heap.size w w' := by
  have HE := Lib.hid hE
  have HW := Lib.hid hW
  have HV := Lib.hid hv
  have HF := Lib.hid (fits23 w E n ce l hE hn hl)
  have HFE := Lib.hid (fun (W : World) (k : Keeps (fun _ => False) w W) => prFew W E n ce l 19 (hE.new k) hn hl)
  have HCF := Lib.hid (fun (W : World) (k : Keeps (fun _ => False) w W) (h : n ≤ 1000) => containsNotWhole W E n ce l (hE.new k) h)
  clear hE hW hl hv
  go_enter Tryd.func4, Tryd.ntmps4
  go_wp2_with fail
  refine HF.out.mono ?_
  rintro e w1 ⟨⟨b, rfl⟩, K1⟩
  have HK1 := Lib.hid K1
  clear K1
  rcases b with _ | _
  · go_wp2_with fail
    go_ret
    exact ⟨rfl, HK1.out.below (Nat.le_refl _) (fun _ h => h.elim)⟩
  go_wp2_with fail
  refine (HFE.out w1 HK1.out).mono ?_
  rintro e w2 ⟨⟨b, rfl, hb⟩, K2⟩
  have HK2 := Lib.hid (HK1.out.trans K2 (fun _ _ h => h))
  have HB := Lib.hid hb
  clear K2 hb
  rcases b with _ | _
  · go_wp2_with fail
    go_ret
    exact ⟨rfl, HK2.out.below (Nat.le_refl _) (fun _ h => h.elim)⟩
  by_cases h0 : n = 0
  · have d0 : decide ((n : Int) = 0) = true := by simp [h0]
    go_wp2_with fail
    go_ret
    exact ⟨rfl, HK2.out.below (Nat.le_refl _) (fun _ h => h.elim)⟩
  have d0 : ((n : Int) == 0) = false := by simpa using h0
  have hn30 := (HB.out rfl).1
  have HFew := Lib.hid (HB.out rfl).2
  go_wp2_with fail
  refine (HCF.out w2 HK2.out (by omega)).mono ?_
  rintro e w3 ⟨⟨b, rfl, hb⟩, K3⟩
  have HK3 := Lib.hid (HK2.out.trans K3 (fun _ _ h => h))
  have HWH := Lib.hid hb
  clear K3 hb
  by_cases hbb : b = true
  · subst hbb
    go_wp2_with fail
    go_ret
    exact ⟨rfl, HK3.out.below (Nat.le_refl _) (fun _ h => h.elim)⟩
  obtain rfl : b = false := by simpa using hbb
  have hq : ∀ a ∈ l, PutsV a := fun a ha => by
    obtain ⟨p1, p2, p3⟩ := HFew.out a ha
    obtain ⟨v1, v2, v3⟩ := HV.out a ha
    have hw := HWH.out rfl a ha
    refine ⟨⟨p1, p2, v1, v2, by omega, fun ho => ?_⟩, v3⟩
    simp only [WholeB, Bool.or_eq_true, Bool.and_eq_true, decide_eq_true_eq] at hw
    rcases hw with ⟨h1, h2⟩ | h
    · rcases ho with ho | ho
      · exact absurd ho h1
      · exact absurd ho h2
    · exact h
  have HQ := Lib.hid hq
  have hpre : ∀ k, (allB (l.take k)).length ≤ 1000000 := fun k => by
    have h := allB_len (l := l.take k) (fun a ha => (hq a (List.mem_of_mem_take ha)).1)
    have h2 : (l.take k).length ≤ n := by rw [List.length_take, HE.out.len]; omega
    omega
  have HPRE := Lib.hid hpre
  have HPA := Lib.hid (prAsksOk w3 (HW.out.new HK3.out) E n ce l (HE.out.new HK3.out) (by omega) hq)
  have HPP := Lib.hid (fun (W : World) (kk : Keeps (fun _ => False) w W) => prPutL W E n ce l (HE.out.new kk) (by omega) (fun a ha => (hq a ha).1) hpre)
  have HPK := Lib.hid (fun (W : World) (kk : Keeps (fun _ => False) w W) (k : Nat) (hk : k ≤ n) => prPutL W E k ce (l.take k) ((HE.out.new kk).take hk) (by omega) (fun a ha => (hq a (List.mem_of_mem_take ha)).1) (fun j => by rw [List.take_take]; exact hpre _))
  clear hq hpre
  go_wp2_with fail
  refine HPA.out.mono ?_
  rintro e w4 ⟨K, ck, V, cv, rfl, hcv, hKs, hVs, K4⟩
  have HK4 := Lib.hid (HK3.out.trans K4 (fun _ _ h => h))
  have HKS := Lib.hid hKs
  have HVS := Lib.hid hVs
  clear K4 hKs hVs
  go_wp2_with fail
  refine (HPP.out w4 HK4.out).mono ?_
  rintro e w5 ⟨A, c, rfl, ho, K5⟩
  have HK5 := Lib.hid (HK4.out.trans K5 (fun _ _ h => h))
  have HK45 := Lib.hid K5
  have hLc := own_cap ho
  have HO := Lib.hid ho
  have hL := HPRE.out n
  rw [List.take_of_length_le (show l.length ≤ n by rw [HE.out.len]; exact Nat.le_refl _)] at hL
  obtain ⟨L, hLL⟩ : ∃ L, L = (allB l).length := ⟨_, rfl⟩
  have HLL := Lib.hid hLL
  rw [← hLL] at hL hLc ⊢
  clear K5 ho hLL
  have hr1 : IntKind.i64.wrap ((L : Int) + 1) = ((L + 1 : Nat) : Int) := by rw [IntKind.wrap_i64]; omega
  go_upto_block 0 with fail
  obtain ⟨N, hN, hNL⟩ : ∃ N : Nat, (at0 : Int) % ((L : Int) + 1) = (N : Int) ∧ N ≤ L := ⟨at0 % (L + 1), by simp, rem_bound at0 L⟩
  rw [hN]
  clear hN hr1
  go_cut [9] from 39 (fun s9 wc => ∃ k : Nat, s9 = .int .i64 (k : Int) ∧ k ≤ n ∧ (allB (l.take k)).length ≤ N ∧ (k = n ∨ k < n ∧ N < (allB (l.take (k + 1))).length) ∧ Keeps (fun _ => False) w5 wc)
  case first =>
    go_wp2_with fail
    go_loopg [9] n (fun gk i wr => ∃ k : Nat, k ≤ n ∧ gk = n - k ∧ i = .int .i64 (k : Int) ∧ (allB (l.take k)).length ≤ N ∧ Keeps (fun _ => False) w5 wr)
    case atStart => exact ⟨0, Nat.zero_le _, rfl, rfl, by simp [allB], Keeps.refl _ _⟩
    case round =>
      obtain ⟨k, hk, hgk, rfl, hle, kr⟩ := hrel
      have HLE := Lib.hid hle
      have HKR := Lib.hid kr
      clear hle kr
      by_cases hlt : k < n
      · have HPK2 := Lib.hid (HPK.out wr (HK5.out.trans HKR.out (fun _ _ h => h)) (k + 1) (by omega))
        have c1 : (k : Int) + 1 ≤ (ce : Int) := by omega
        go_wp2_with fail
        refine HPK2.out.mono ?_
        rintro e w6 ⟨A6, c6, rfl, _, K6⟩
        have HK6 := Lib.hid (HKR.out.trans K6 (fun _ _ h => h))
        obtain ⟨M, hM⟩ : ∃ M, M = (allB (l.take (k + 1))).length := ⟨_, rfl⟩
        have HM := Lib.hid hM
        rw [← hM]
        clear hM K6
        by_cases hMN : (M : Int) ≤ (N : Int)
        · go_wp2_with fail
          go_roundg (n - (k + 1))
          case measure => omega
          case rel => exact ⟨k + 1, by omega, rfl, by go_num, by have := HM.out; omega, HK6.out⟩
        · go_wp2_with fail
          go_meet
          case rel => exact ⟨k, rfl, by omega, HLE.out, .inr ⟨by omega, by have := HM.out; omega⟩, HK6.out⟩
      · go_wp2_with fail
        go_meet
        case rel => exact ⟨k, rfl, by omega, HLE.out, .inl (by omega), HKR.out⟩
  case rest =>
    obtain ⟨k, rfl, hk, hle, hend, kc⟩ := hcut
    have HKC := Lib.hid (HK5.out.trans kc (fun _ _ h => h))
    have hRA : Rd wc 1 A N (Lib.byteCells ((allB l).take N)) := by
      have h := (Rd.own (own_keeps HO.out kc (fun _ _ h => h))).firstQ (k := N) (by rw [← HLL.out]; exact hNL)
      rw [Nat.mul_one] at h
      rwa [show (Lib.byteCells (allB l)).take N = Lib.byteCells ((allB l).take N) by rw [Lib.byteCells, ← List.map_take, Lib.byteCells]] at h
    have hdl : ((allB l).take N).length = N := by rw [List.length_take, ← HLL.out]; omega
    have hPG := prGetAllC wc A c ((allB l).take N) (by rw [hdl]; exact hRA) (by rw [hdl]; omega) (fun i hi => (own_keeps HO.out kc (fun _ _ h => h)).lt i (by rw [ownBlock_slice]; exact hi) |>.2) K n ck (asksL l) (HKS.out.new (HK45.out.trans kc (fun _ _ h => h))) (by omega) (fun a ha => by
      obtain ⟨b, hb, rfl⟩ := List.mem_map.mp ha
      obtain ⟨⟨p1, p2, p3, p4, p5, p6⟩, p7⟩ := HQ.out b hb
      have hop : (askOf b).op = if b.op = 17 then 16 else b.op := rfl
      have hu : (askOf b).u = if b.op = 19 then b.s.length else 0 := rfl
      have hs : (askOf b).s.length = 0 := rfl
      refine ⟨?_, ?_, by omega, fun h => ?_⟩
      · rw [hop]; split <;> omega
      · rw [hop]; split <;> omega
      · rw [hu]; split <;> omega) (looks_cut HQ.out)
    rw [hdl] at hPG
    have HPG := Lib.hid hPG
    have hNc : (N : Int) ≤ (c : Int) := by omega
    have HEND := Lib.hid hend
    have HLE := Lib.hid hle
    have HKC5 := Lib.hid kc
    clear hPG hdl hRA hend hle kc
    go_wp2_with fail
    refine HPG.out.mono ?_
    rintro e w7 ⟨O, cO, gs, rfl, hcO, hgs, hvs, K7⟩
    have HK7 := Lib.hid (HKC.out.trans K7 (fun _ _ h => h))
    have HK457 := Lib.hid ((HK45.out.trans HKC5.out (fun _ _ h => h)).trans K7 (fun _ _ h => h))
    have HVAL := Lib.hid hvs
    have HGS := Lib.hid hgs
    have HEQ := Lib.hid (fun (W : World) (kk : Keeps (fun _ => False) w7 W) => eqFunc W O V k cO cv (gs.take k) ((wantL l).take k) ((hgs.new kk).take hk) ((HVS.out.new (HK457.out.trans kk (fun _ _ h => h))).take hk) (by
      rw [List.map_take, hvs]
      show (readM ((allB l).take N) (l.map askOf)).2.take k = _
      rw [cut_whole HQ.out (by rw [HE.out.len]; exact hk) HLE.out, wantL, ← List.map_take, List.map_map]
      rfl) (by omega))
    have d1 : (k : Int) ≤ (cO : Int) := by omega
    have d2 : (k : Int) ≤ (cv : Int) := by omega
    clear K7 hgs hvs
    go_wp2_with fail
    go_region_held3 (fun w' => True) (exact trivial) ((go_at_call 9; refine (HEQ.out _ (Keeps.refl (fun _ => False) w7).drew).mono ?_; rintro e w8 ⟨rfl, K8⟩))
    all_goals
      have HK8 := Lib.hid ((HK7.out.trans (Keeps.refl (fun _ => False) w7).drew (fun _ _ h => h)).trans K8 (fun _ _ h => h))
      have HK78 := Lib.hid ((Keeps.refl (fun _ => False) w7).drew.trans K8 (fun _ _ h => h))
      clear K8
      have HAW := Lib.hid (prAwake w8)
      rcases HEND.out with rfl | ⟨hlt, hstop⟩
      · go_wp2_with fail
        refine HAW.out.mono ?_
        rintro e w9 ⟨rfl, K9⟩
        have HK9 := Lib.hid (HK8.out.trans K9 (fun _ _ h => h))
        clear K9
        go_wp2_with fail
        go_ret
        exact ⟨rfl, HK9.out.below (Nat.le_refl _) (fun _ h => h.elim)⟩
      · have hs := cut_stop HQ.out (by rw [HE.out.len]; exact hlt) HLE.out hstop
        have hvs := HVAL.out
        obtain ⟨g, hg⟩ : ∃ g, gs[k]? = some g := ⟨_, List.getElem?_eq_getElem (by rw [HGS.out.len]; exact hlt)⟩
        have hgv : g.val = (0, 0, [], true) := by
          have e1 : (gs.map PGot.val)[k]? = some g.val := by rw [List.getElem?_map, hg]; rfl
          rw [hvs] at e1
          have e2 : (readM ((allB l).take N) (asksL l)).2[k]? = some (0, 0, [], true) := hs
          rw [e2] at e1
          exact (Option.some.inj e1).symm
        have hG8 := HGS.out.new HK78.out
        obtain ⟨ad, hO, hb, hc⟩ := rows4 gotC gotC_len hG8.len hG8.rows hg
        subst hO
        have hE : g.E = true := by have := congrArg (fun q => q.2.2.2) hgv; exact this
        have x3 : w8.cell? ⟨(ad.add (k * 4)).block, (ad.add (k * 4)).off + 3, none⟩ = some (.bool true) := by rw [← hE]; exact hc 3 _ rfl
        have hbl : (ad.add (k * 4)).block < w8.heap.size := by rw [blk_add]; exact hb
        have hlt2 : (k : Int) < (n : Int) := by omega
        have hne : ((k : Int) == (n : Int)) = false := by simp; omega
        clear hs hstop hvs hg hgv hG8 hc hE hb
        go_wp2_with fail
        refine HAW.out.mono ?_
        rintro e w9 ⟨rfl, K9⟩
        have HK9 := Lib.hid (HK8.out.trans K9 (fun _ _ h => h))
        clear K9
        go_wp2_with fail
        go_ret
        exact ⟨rfl, HK9.out.below (Nat.le_refl _) (fun _ h => h.elim)⟩
end Go.Proofs.YthfoleapdmpdfaaDoor
