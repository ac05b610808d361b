/- What the laws on primitives ask of values: whether two answers are the same, whether they are few. Conditions: the rows read as values. -/
import Derived.Test.YthfoleapdmpdfaaDoorRp
import Derived.Test.YthfoleapdmpdfaaDoorEq
namespace Go.Proofs.YthfoleapdmpdfaaDoor
open Go.RowKit Go.Lib
set_option linter.unusedVariables false
set_option maxRecDepth 100000 in
set_option maxHeartbeats 2000000 in
theorem prSameEq (w : World) (U V : Int) (A B : Option Addr) (c1 c2 : Nat) (S : List UInt8) (E : Bool) (hA : Rd w 1 A S.length (Lib.byteCells S)) (hB : Rd w 1 B S.length (Lib.byteCells S)) :
    Calls Tryd.prog 11 #[.agg #[.int .u64 U, .int .u64 V, .slice A S.length c1, .bool E], .agg #[.int .u64 U, .int .u64 V, .slice B S.length c2, .bool E]] w fun e w' => e = .returned (.bool true) ∧ Keeps (fun _ => False) w w' := by
  have K0 := ((Keeps.refl (fun _ => False) w).alloc (.cells #[.int .u64 U, .int .u64 V, .slice A S.length c1, .bool E] 34)).alloc (.cells #[.int .u64 U, .int .u64 V, .slice B S.length c2, .bool E] 34)
  have HE := Lib.hid (bytesEq _ A B S.length c1 S.length c2 S S (hA.keeps K0 (fun _ _ h => h)) (hB.keeps K0 (fun _ _ h => h)))
  have HK := Lib.hid K0
  obtain ⟨n, hn⟩ : ∃ n, n = S.length := ⟨_, rfl⟩
  clear hA hB K0
  cases E
  all_goals
    go_enter Tryd.func11, Tryd.ntmps11
    go_wp2_with fail
    refine HE.out.mono ?_
    rintro e w1 ⟨rfl, rfl⟩
    simp only [decide_true]
    go_wp2_with fail
    go_ret
    exact ⟨rfl, HK.out⟩
set_option maxRecDepth 100000 in
set_option maxHeartbeats 4000000 in
theorem eqFunc (w : World) (O P : Option Addr) (n c1 c2 : Nat) (gs hs : List PGot) (h1 : GotsAt w O n gs) (h2 : GotsAt w P n hs) (hv : gs.map PGot.val = hs.map PGot.val) (hn : n ≤ 1000) :
    Calls Tryd.prog 9 #[.slice O n c1, .slice P n c2, .func (.func 11) #[] #[]] w fun e w' => e = .returned (.bool true) ∧ Keeps (fun _ => False) w w' := by
  have HU := Lib.hid h1
  have HV := Lib.hid h2
  have HW := Lib.hid hv
  clear h1 h2 hv
  go_enter Tryd.func9, Tryd.ntmps9
  go_wp2_with fail
  go_loopw [17] (fun i wr => ∃ (k : Nat), k ≤ n ∧ i = .int .i64 k ∧ Hid (Keeps (fun _ => False) w wr)) (fun i _ => n - (RowKit.intOf i).toNat)
  case atStart => exact ⟨0, Nat.zero_le _, rfl, Lib.hid (Keeps.refl _ _)⟩
  case round =>
    obtain ⟨k, hk, rfl, HK⟩ := hrel
    by_cases hlt : k < n
    · obtain ⟨g, hg⟩ : ∃ g, gs[k]? = some g := ⟨_, List.getElem?_eq_getElem (by rw [HU.out.len]; exact hlt)⟩
      obtain ⟨h, hh⟩ : ∃ h, hs[k]? = some h := ⟨_, List.getElem?_eq_getElem (by rw [HV.out.len]; exact hlt)⟩
      have hval : g.val = h.val := by
        have e1 : (gs.map PGot.val)[k]? = some g.val := by rw [List.getElem?_map, hg]; rfl
        have e2 : (hs.map PGot.val)[k]? = some h.val := by rw [List.getElem?_map, hh]; rfl
        rw [HW.out, e2] at e1
        exact (Option.some.inj e1).symm
      have g1 := HU.out.new HK.out
      have g2 := HV.out.new HK.out
      obtain ⟨ad, hO, hb, hc⟩ := rows4 gotC gotC_len g1.len g1.rows hg
      obtain ⟨ae, hP, hb2, hc2⟩ := rows4 gotC gotC_len g2.len g2.rows hh
      subst hO hP
      have r1 := g1.bytes g (List.mem_of_getElem? hg)
      have r2 := g2.bytes h (List.mem_of_getElem? hh)
      obtain ⟨U, V, S, E, A, c⟩ := g
      obtain ⟨U2, V2, S2, E2, A2, cc⟩ := h
      simp only [PGot.val, Prod.mk.injEq] at hval
      obtain ⟨rfl, rfl, rfl, rfl⟩ := hval
      simp only at r1 r2
      have ka := (Keeps.refl (fun _ => False) wr).alloc (.cells #[.int .u64 (U : Int), .int .u64 (V : Int), .slice A S.length c, .bool E] 34)
      have x0 : wr.cell? (ad.add (k * 4)) = some (.int .u64 (U : Int)) := hc 0 _ rfl
      have x1 : wr.cell? ⟨(ad.add (k * 4)).block, (ad.add (k * 4)).off + 1, none⟩ = some (.int .u64 (V : Int)) := hc 1 _ rfl
      have x2 : wr.cell? ⟨(ad.add (k * 4)).block, (ad.add (k * 4)).off + 2, none⟩ = some (.slice A S.length c) := hc 2 _ rfl
      have x3 : wr.cell? ⟨(ad.add (k * 4)).block, (ad.add (k * 4)).off + 3, none⟩ = some (.bool E) := hc 3 _ rfl
      have y0 : (wr.alloc (.cells #[.int .u64 (U : Int), .int .u64 (V : Int), .slice A S.length c, .bool E] 34)).cell? (ae.add (k * 4)) = some (.int .u64 (U : Int)) := (ka.cell (by rw [blk_add]; exact hb2) (fun h => h)).trans (hc2 0 _ rfl)
      have y1 : (wr.alloc (.cells #[.int .u64 (U : Int), .int .u64 (V : Int), .slice A S.length c, .bool E] 34)).cell? ⟨(ae.add (k * 4)).block, (ae.add (k * 4)).off + 1, none⟩ = some (.int .u64 (V : Int)) := (ka.cell (by rw [blk_add]; exact hb2) (fun h => h)).trans (hc2 1 _ rfl)
      have y2 : (wr.alloc (.cells #[.int .u64 (U : Int), .int .u64 (V : Int), .slice A S.length c, .bool E] 34)).cell? ⟨(ae.add (k * 4)).block, (ae.add (k * 4)).off + 2, none⟩ = some (.slice A2 S.length cc) := (ka.cell (by rw [blk_add]; exact hb2) (fun h => h)).trans (hc2 2 _ rfl)
      have y3 : (wr.alloc (.cells #[.int .u64 (U : Int), .int .u64 (V : Int), .slice A S.length c, .bool E] 34)).cell? ⟨(ae.add (k * 4)).block, (ae.add (k * 4)).off + 3, none⟩ = some (.bool E) := (ka.cell (by rw [blk_add]; exact hb2) (fun h => h)).trans (hc2 3 _ rfl)
      have K2 := ((Keeps.refl (fun _ => False) wr).alloc (.cells #[.int .u64 (U : Int), .int .u64 (V : Int), .slice A S.length c, .bool E] 34)).alloc (.cells #[.int .u64 (U : Int), .int .u64 (V : Int), .slice A2 S.length cc, .bool E] 34)
      have HS := Lib.hid (prSameEq _ (U : Int) (V : Int) A A2 c cc S E (r1.keeps K2 (fun _ _ h => h)) (r2.keeps K2 (fun _ _ h => h)))
      have HK2 := Lib.hid (HK.out.trans K2 (fun _ _ h => h))
      clear hc hc2 g1 g2 r1 r2 K2 hg hh ka
      go_wp2_with fail
      refine HS.out.mono ?_
      rintro e w1 ⟨rfl, K1⟩
      have HK3 := Lib.hid (HK2.out.trans K1 (fun _ _ h => h))
      clear K1
      go_wp2_with fail
      go_roundw
      case rel => exact ⟨k + 1, by omega, by go_num, HK3⟩
      case measure => (first | (simp [RowKit.intOf]; done) | (simp [RowKit.intOf]; omega))
    · go_wp2_with fail
      go_ret
      exact ⟨rfl, HK.out⟩
def Some01P (e : Ending) : Prop := ∃ b, e = .returned (.bool b)
/-- Few values, or not. -/
def FewR (n : Nat) (asks : List PAsk) (most : Int) (e : Ending) : Prop := ∃ b, e = .returned (.bool b) ∧ (b = true → n ≤ 30 ∧ ∀ a ∈ asks, 1 ≤ a.op ∧ a.op ≤ most ∧ a.s.length ≤ 100)
theorem fits24 (w : World) (op u v : Int) (A : Option Addr) (n c : Nat) (hn : n ≤ 9223372036854775807) : Calls Tryd.prog 22 #[.agg #[.int .i64 op, .int .u64 u, .int .u64 v, .slice A n c]] w fun e w' => Some01P e ∧ Keeps (fun _ => False) w w' := by
  by_cases h : (2147483647 : Int) < (n : Int)
  all_goals
    go_enter Tryd.func22, Tryd.ntmps22
    go_wp2
    go_ret
    exact ⟨⟨_, rfl⟩, (Keeps.refl _ _).alloc _⟩
set_option maxRecDepth 100000 in
set_option maxHeartbeats 2000000 in
theorem fits23 (w : World) (E : Option Addr) (n ce : Nat) (asks : List PAsk) (hE : AsksAt w E n asks) (hn : n ≤ 9223372036854775807) (hl : ∀ a ∈ asks, a.s.length ≤ 9223372036854775807) : Calls Tryd.prog 6 #[.slice E n ce] w fun e w' => Some01P e ∧ Keeps (fun _ => False) w w' := by
  have HE := Lib.hid hE
  have HL := Lib.hid hl
  clear hE hl
  by_cases hbig : (2147483647 : Int) < (n : Int)
  · go_enter Tryd.func6, Tryd.ntmps6
    go_wp2
    go_ret
    exact ⟨⟨_, rfl⟩, Keeps.refl _ _⟩
  go_enter Tryd.func6, Tryd.ntmps6
  go_wp2_with fail
  go_loopw [10] (fun i wr => ∃ (k : Nat), k ≤ n ∧ i = .int .i64 k ∧ Hid (Keeps (fun _ => False) w wr)) (fun i _ => n - (RowKit.intOf i).toNat)
  case atStart => exact ⟨0, Nat.zero_le _, rfl, Lib.hid (Keeps.refl _ _)⟩
  case round =>
    obtain ⟨k, hk, rfl, HK⟩ := hrel
    by_cases hlt : k < n
    · obtain ⟨a, ha⟩ : ∃ a, asks[k]? = some a := ⟨_, List.getElem?_eq_getElem (by rw [HE.out.len]; exact hlt)⟩
      have g1 := HE.out.new HK.out
      obtain ⟨ad, hO, hb, hc⟩ := rows4 askC askC_len g1.len g1.rows ha
      subst hO
      have hal := HL.out a (List.mem_of_getElem? ha)
      obtain ⟨op, u, v, s, A, c⟩ := a
      simp only at hal
      have x0 : wr.cell? (ad.add (k * 4)) = some (.int .i64 op) := hc 0 _ rfl
      have x1 : wr.cell? ⟨(ad.add (k * 4)).block, (ad.add (k * 4)).off + 1, none⟩ = some (.int .u64 (u : Int)) := hc 1 _ rfl
      have x2 : wr.cell? ⟨(ad.add (k * 4)).block, (ad.add (k * 4)).off + 2, none⟩ = some (.int .u64 v) := hc 2 _ rfl
      have x3 : wr.cell? ⟨(ad.add (k * 4)).block, (ad.add (k * 4)).off + 3, none⟩ = some (.slice A s.length c) := hc 3 _ rfl
      have HF := Lib.hid (fun W => fits24 W op (u : Int) v A s.length c hal)
      clear hc g1 ha hal
      go_wp2_with fail
      refine (HF.out _).mono ?_
      rintro e w1 ⟨⟨b, rfl⟩, K1⟩
      have HK3 := Lib.hid ((HK.out.alloc (.cells #[.int .i64 op, .int .u64 (u : Int), .int .u64 v, .slice A s.length c] 28)).trans K1 (fun _ _ h => h))
      clear K1
      cases b
      · go_wp2_with fail
        go_ret
        exact ⟨⟨_, rfl⟩, HK3.out⟩
      · go_wp2_with fail
        go_roundw
        case rel => exact ⟨k + 1, by omega, by go_num, HK3⟩
        case measure => (first | (simp [RowKit.intOf]; done) | (simp [RowKit.intOf]; omega))
    · go_wp2_with fail
      go_ret
      exact ⟨⟨_, rfl⟩, HK.out⟩
set_option maxRecDepth 100000 in
set_option maxHeartbeats 2000000 in
theorem prFew (w : World) (E : Option Addr) (n ce : Nat) (asks : List PAsk) (most : Int) (hE : AsksAt w E n asks) (hn : n ≤ 9223372036854775807) (hl : ∀ a ∈ asks, a.s.length ≤ 9223372036854775807) : Calls Tryd.prog 7 #[.slice E n ce, .int .i64 most] w fun e w' => FewR n asks most e ∧ Keeps (fun _ => False) w w' := by
  have HE := Lib.hid hE
  have HL := Lib.hid hl
  clear hE hl
  go_enter Tryd.func7, Tryd.ntmps7
  go_wp2_with fail
  go_loopw [9] (fun i wr => ∃ (k : Nat), k ≤ n ∧ i = .int .i64 k ∧ Hid (∀ j a, j < k → asks[j]? = some a → 1 ≤ a.op ∧ a.op ≤ most ∧ a.s.length ≤ 100) ∧ Hid (Keeps (fun _ => False) w wr)) (fun i _ => n - (RowKit.intOf i).toNat)
  case atStart => exact ⟨0, Nat.zero_le _, rfl, Lib.hid (fun j a h => absurd h (by omega)), Lib.hid (Keeps.refl _ _)⟩
  case round =>
    obtain ⟨k, hk, rfl, HA, HK⟩ := hrel
    by_cases hlt : k < n
    · obtain ⟨a, ha⟩ : ∃ a, asks[k]? = some a := ⟨_, List.getElem?_eq_getElem (by rw [HE.out.len]; exact hlt)⟩
      have g1 := HE.out.new HK.out
      obtain ⟨ad, hO, hb, hc⟩ := rows4 askC askC_len g1.len g1.rows ha
      subst hO
      have hal := HL.out a (List.mem_of_getElem? ha)
      obtain ⟨op, u, v, s, A, c⟩ := a
      simp only at hal
      have x0 : wr.cell? (ad.add (k * 4)) = some (.int .i64 op) := hc 0 _ rfl
      have x1 : wr.cell? ⟨(ad.add (k * 4)).block, (ad.add (k * 4)).off + 1, none⟩ = some (.int .u64 (u : Int)) := hc 1 _ rfl
      have x2 : wr.cell? ⟨(ad.add (k * 4)).block, (ad.add (k * 4)).off + 2, none⟩ = some (.int .u64 v) := hc 2 _ rfl
      have x3 : wr.cell? ⟨(ad.add (k * 4)).block, (ad.add (k * 4)).off + 3, none⟩ = some (.slice A s.length c) := hc 3 _ rfl
      have HK3 := Lib.hid (HK.out.alloc (.cells #[.int .i64 op, .int .u64 (u : Int), .int .u64 v, .slice A s.length c] 28))
      have HAK := Lib.hid ha
      clear hc g1 ha
      by_cases c1 : op < 1
      · go_wp2_with fail
        go_ret
        exact ⟨⟨_, rfl, fun h => by cases h⟩, HK3.out⟩
      by_cases c2 : most < op
      · go_wp2_with fail
        go_ret
        exact ⟨⟨_, rfl, fun h => by cases h⟩, HK3.out⟩
      by_cases c3 : (100 : Int) < (s.length : Int)
      · go_wp2_with fail
        go_ret
        exact ⟨⟨_, rfl, fun h => by cases h⟩, HK3.out⟩
      go_wp2_with fail
      go_roundw
      case rel => exact ⟨k + 1, by omega, by go_num, Lib.hid (fun j a hj hja => by
        by_cases hjk : j = k
        · subst hjk
          rw [HAK.out] at hja
          injection hja with hja
          subst hja
          exact ⟨show (1 : Int) ≤ op by omega, show op ≤ most by omega, show s.length ≤ 100 by omega⟩
        · exact HA.out j a (by omega) hja), HK3⟩
      case measure => (first | (simp [RowKit.intOf]; done) | (simp [RowKit.intOf]; omega))
    · go_wp2_with fail
      go_ret
      have hkn : k = n := by omega
      subst hkn
      refine ⟨⟨_, rfl, fun h => ⟨by have := of_decide_eq_true h; omega, fun a ha => ?_⟩⟩, HK.out⟩
      obtain ⟨j, hj⟩ := List.getElem?_of_mem ha
      exact HA.out j a (by have := (List.getElem?_eq_some_iff.1 hj).1; rw [HE.out.len] at this; exact this) hj
end Go.Proofs.YthfoleapdmpdfaaDoor
