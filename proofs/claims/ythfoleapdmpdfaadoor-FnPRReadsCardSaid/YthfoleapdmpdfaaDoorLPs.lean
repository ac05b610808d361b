/- The law of FnPRReads. Conditions: the bytes and the values that are asked for are there; the table of widths is laid. -/
import Derived.Test.YthfoleapdmpdfaaDoorPsI
import Derived.Test.YthfoleapdmpdfaaDoorAx
namespace Go.Proofs.YthfoleapdmpdfaaDoor
open Go.RowKit Go.Lib
set_option linter.unusedVariables false
set_option maxRecDepth 100000 in
set_option maxHeartbeats 8000000 in
theorem psWalk (w : World) (hW : WidthsV w) (A : Option Addr) (m c : Nat) (d : List UInt8) (hdm : d.length = m) (hm : m ≤ 9223372036854775807) (hc : m ≤ c) (hA : Rd w 1 A m (Lib.byteCells d)) (hAl : ∀ i, ob A = some i → i < w.heap.size) (E : Option Addr) (n ce : Nat) (asks : List PAsk) (hE : AsksAt w E n asks) (hn : n ≤ 9223372036854775807) (hl : ∀ a ∈ asks, a.s.length ≤ 9223372036854775807) :
    Calls Tryd.prog 3 #[.slice A m c, .slice E n ce] w fun e w' => e = .returned (.bool true) ∧ Below w.heap.size w w' := by
  have HE := Lib.hid hE
  have HW := Lib.hid hW
  have HA := Lib.hid hA
  have HAL := Lib.hid hAl
  have HF := Lib.hid (fits23 w E n ce asks hE hn hl)
  have HFE := Lib.hid (fun (W : World) (k : Keeps (fun _ => False) w W) => prFew W E n ce asks 22 (hE.new k) hn hl)
  have HDM := Lib.hid hdm
  clear hE hW hA hAl hl hdm
  by_cases hbig : (2147483647 : Int) < (m : Int)
  · go_enter Tryd.func3, Tryd.ntmps3
    go_wp2_with fail
    go_ret
    exact ⟨rfl, Below.refl _ _⟩
  go_enter Tryd.func3, Tryd.ntmps3
  go_wp2_with fail
  refine HF.out.mono ?_
  rintro e w1 ⟨⟨b, rfl⟩, K1⟩
  have HK1 := Lib.hid K1
  clear K1
  rcases b with _ | _
  · go_wp2_with fail
    go_ret
    exact ⟨rfl, HK1.out.below (Nat.le_refl _) (fun _ h => h.elim)⟩
  go_wp2_with fail
  refine (HFE.out w1 HK1.out).mono ?_
  rintro e w2 ⟨⟨b, rfl, hb⟩, K2⟩
  have HK2 := Lib.hid (HK1.out.trans K2 (fun _ _ h => h))
  have HB := Lib.hid hb
  clear K2 hb
  rcases b with _ | _
  · go_wp2_with fail
    go_ret
    exact ⟨rfl, HK2.out.below (Nat.le_refl _) (fun _ h => h.elim)⟩
  by_cases h200 : (200 : Int) < (m : Int)
  · go_wp2_with fail
    go_ret
    exact ⟨rfl, HK2.out.below (Nat.le_refl _) (fun _ h => h.elim)⟩
  go_wp2_with fail
  go_loopw [27] (fun i wr => ∃ (k : Nat), k ≤ n ∧ i = .int .i64 k ∧ Hid (∀ j a, j < k → asks[j]? = some a → a.op = 19 → a.u ≤ 1000) ∧ Hid (Keeps (fun _ => False) w wr)) (fun i _ => n - (RowKit.intOf i).toNat)
  case atStart => exact ⟨0, Nat.zero_le _, rfl, Lib.hid (fun j a h => absurd h (by omega)), HK2⟩
  case round =>
    obtain ⟨k, hk, rfl, HU, HK⟩ := hrel
    by_cases hlt : k < n
    · obtain ⟨a, ha⟩ : ∃ a, asks[k]? = some a := ⟨_, List.getElem?_eq_getElem (by rw [HE.out.len]; exact hlt)⟩
      have hE2 := HE.out.new HK.out
      obtain ⟨ad, hEe, hb, hcell⟩ := rows4 askC askC_len hE2.len hE2.rows ha
      subst hEe
      have x0 : wr.cell? (ad.add (k * 4)) = some (.int .i64 a.op) := hcell 0 _ rfl
      have x1 : wr.cell? ⟨(ad.add (k * 4)).block, (ad.add (k * 4)).off + 1, none⟩ = some (.int .u64 (a.u : Int)) := hcell 1 _ rfl
      have x2 : wr.cell? ⟨(ad.add (k * 4)).block, (ad.add (k * 4)).off + 2, none⟩ = some (.int .u64 a.v) := hcell 2 _ rfl
      have x3 : wr.cell? ⟨(ad.add (k * 4)).block, (ad.add (k * 4)).off + 3, none⟩ = some (.slice a.A a.s.length a.c) := hcell 3 _ rfl
      have HAA := Lib.hid ha
      have HK3 := Lib.hid (HK.out.alloc (.cells #[.int .i64 a.op, .int .u64 (a.u : Int), .int .u64 a.v, .slice a.A a.s.length a.c] 28))
      clear hcell hE2 ha
      by_cases h19 : a.op = 19
      · have e19 : (a.op == 19) = true := by rw [h19]; rfl
        clear h19
        by_cases hu : (1000 : Int) < (a.u : Int)
        · go_wp2_with fail
          go_ret
          exact ⟨rfl, HK3.out.below (Nat.le_refl _) (fun _ h => h.elim)⟩
        · go_wp2_with fail
          go_roundw
          case rel => exact ⟨k + 1, by omega, by go_num, Lib.hid (fun j a' hj hja ho => by
            by_cases hjk : j = k
            · subst hjk
              rw [HAA.out] at hja
              injection hja with hja
              subst hja
              omega
            · exact HU.out j a' (by omega) hja ho), HK3⟩
          case measure => (first | (simp [RowKit.intOf]; done) | (simp [RowKit.intOf]; omega))
      · have e19 : (a.op == 19) = false := by simpa using h19
        have H19 := Lib.hid h19
        clear h19
        go_wp2_with fail
        go_roundw
        case rel => exact ⟨k + 1, by omega, by go_num, Lib.hid (fun j a' hj hja ho => by
          by_cases hjk : j = k
          · subst hjk
            rw [HAA.out] at hja
            injection hja with hja
            subst hja
            exact absurd ho H19.out
          · exact HU.out j a' (by omega) hja ho), HK3⟩
        case measure => (first | (simp [RowKit.intOf]; done) | (simp [RowKit.intOf]; omega))
    · have hkn : k = n := by omega
      subst hkn
      obtain ⟨hn30, hfew⟩ := HB.out trivial
      have hop : ∀ a ∈ asks, 1 ≤ a.op ∧ a.op ≤ 22 ∧ a.s.length ≤ 1000 ∧ (a.op = 19 → a.u ≤ 1000) := fun a ha => by
        obtain ⟨h1, h2, h3⟩ := hfew a ha
        obtain ⟨j, hj⟩ := List.getElem?_of_mem ha
        exact ⟨h1, h2, by omega, fun ho => HU.out j a (by have := (List.getElem?_eq_some_iff.1 hj).1; rw [HE.out.len] at this; exact this) hj ho⟩
      have hdm := HDM.out
      subst hdm
      have HPR := Lib.hid (prReadsAll wr (HW.out.new HK.out) A c d (by omega) hc (HA.out.keeps HK.out (fun _ _ h => h)) (fun i hi => Nat.lt_of_lt_of_le (HAL.out i hi) HK.out.size) E k ce asks (HE.out.new HK.out) (by omega) hop)
      have HPG := Lib.hid (fun (W : World) (kk : Keeps (fun _ => False) w W) (hlk : Looks d asks) => prGetAll W A c d (HA.out.keeps kk (fun _ _ h => h)) hc (fun i hi => Nat.lt_of_lt_of_le (HAL.out i hi) kk.size) E k ce asks (HE.out.new kk) (by omega) hop hlk)
      have hk1000 : k ≤ 1000 := by omega
      clear hop hfew
      obtain ⟨m, hm2⟩ : ∃ m, m = d.length := ⟨_, rfl⟩
      rw [← hm2] at HPR HPG hm hc hbig h200 ⊢
      clear hm2
      go_wp2_with fail
      refine HPR.out.mono ?_
      rintro e w3 ⟨rfl | ⟨hlk, O, cO, gs, rfl, hgs, hvs⟩, K3⟩
      · have HK3 := Lib.hid (HK.out.trans K3 (fun _ _ h => h))
        clear K3
        go_wp2_with fail
        go_ret
        exact ⟨rfl, HK3.out.below (Nat.le_refl _) (fun _ h => h.elim)⟩
      · have HK3 := Lib.hid (HK.out.trans K3 (fun _ _ h => h))
        have HGS := Lib.hid (And.intro hgs hvs)
        have HG := Lib.hid (HPG.out w3 HK3.out hlk)
        clear K3 hgs hvs hlk
        go_wp2_with fail
        refine HG.out.mono ?_
        rintro e w4 ⟨P, cP, hs, rfl, hhs, hvh, K4⟩
        have HK4 := Lib.hid (HK3.out.trans K4 (fun _ _ h => h))
        have HEQ := Lib.hid (eqFunc w4 P O k cP cO hs gs hhs (HGS.out.1.new K4) (by rw [hvh, HGS.out.2]) hk1000)
        clear K4 hhs hvh
        go_wp2_with fail
        refine HEQ.out.mono ?_
        rintro e w5 ⟨rfl, K5⟩
        have HK5 := Lib.hid (HK4.out.trans K5 (fun _ _ h => h))
        have HAW := Lib.hid (prAwake w5)
        clear K5
        go_wp2_with fail
        refine HAW.out.mono ?_
        rintro e w6 ⟨rfl, K6⟩
        have HK6 := Lib.hid (HK5.out.trans K6 (fun _ _ h => h))
        clear K6
        go_wp2_with fail
        go_ret
        exact ⟨rfl, HK6.out.below (Nat.le_refl _) (fun _ h => h.elim)⟩
end Go.Proofs.YthfoleapdmpdfaaDoor
