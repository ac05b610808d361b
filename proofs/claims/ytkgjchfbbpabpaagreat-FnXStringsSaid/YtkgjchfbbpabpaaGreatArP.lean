/- The lists of pairs that the laws on maps look at. Conditions: lengths that an argument can have. -/
import Derived.Test.YtkgjchfbbpabpaaGreatPair
import Derived.Test.YtkgjchfbbpabpaaGreatArL
import Derived.Test.YtkgjchfbbpabpaaGreatAe
import Derived.Deep.RegionHeld3
namespace Go.Proofs.YtkgjchfbbpabpaaGreat
open Go.RowKit Go.Lib
set_option linter.unusedVariables false
theorem infoPrE : (Tryz.prog.info? 40).map (fun i => (i.zero, i.size, i.bytes)) = some (some (.agg #[.string ⟨#[]⟩, .string ⟨#[]⟩]), 2, 32) := by kernel_rfl
theorem infoPrS : (Tryz.prog.info? 38).map (fun i => (i.zero, i.size, i.bytes)) = some (some (.slice none 0 0), 1, 24) := by kernel_rfl
theorem cellK {w w' : World} {p : Addr} {v : Value} (hK : Keeps (fun _ => False) w w') (h : w.cell? p = some v) : w'.cell? p = some v := by
  have hlt : p.block < w.heap.size := by
    rcases Nat.lt_or_ge p.block w.heap.size with h' | h'
    · exact h'
    · simp [World.cell?, Array.getElem?_eq_none h'] at h
  exact (hK.cell hlt (fun h => h)).trans h
theorem cellG {w w' : World} {row : Option Nat} {p : Addr} {v : Value} (hg : w.grownBy w' row) (h : w.cell? p = some v) (hr : row ≠ some p.block) : w'.cell? p = some v := by
  have hlt : p.block < w.heap.size := by
    rcases Nat.lt_or_ge p.block w.heap.size with h' | h'
    · exact h'
    · simp [World.cell?, Array.getElem?_eq_none h'] at h
  exact (World.cell?_of_block (hg.block _ hlt (fun e => hr e.symm))).trans h
def cutP (p : Pr) : Pr := (cut60 p.1, cut60 p.2)
def pairsIn (L : List Pr) : List Pr := (L.take 8).map cutP
def pairsOf (PP : List (List Pr)) : List (List Pr) := (PP.take 12).map pairsIn ++ [[((⟨#[107]⟩ : ByteArray), (⟨#[118]⟩ : ByteArray))]]
theorem cut_step {L : List Pr} {k : Nat} {p : Pr} (h : L[k]? = some p) : (L.take (k + 1)).map cutP = (L.take k).map cutP ++ [cutP p] := by rw [List.take_add_one, h]; simp
theorem pairs_step {PP : List (List Pr)} {k : Nat} {L : List Pr} (h : PP[k]? = some L) : (PP.take (k + 1)).map pairsIn = (PP.take k).map pairsIn ++ [pairsIn L] := by rw [List.take_add_one, h]; simp
theorem rd_two (w : World) (t : TypeId) (u v : Value) : Rd (w.alloc (.cells #[u, v] t)) 2 (some ⟨w.heap.size, 0, none⟩) 1 [u, v] := by
  have hw := Whole.new w t #[u, v]
  exact ⟨rfl, fun _ => ⟨_, rfl, hw.lt, fun j x hx => by rw [add_lit', Nat.zero_add, hw.cell j, ← Array.getElem?_toList]; exact hx⟩⟩
def PairsRes (w : World) (PP : List (List Pr)) (n : Nat) (e : Ending) (w' : World) : Prop := ∃ A' c', e = .returned (.slice A' n c') ∧ RowsP w' A' PP ∧ Keeps (fun _ => False) w w'

set_option maxRecDepth 100000 in
set_option maxHeartbeats 4000000 in
theorem arPairs (w : World) (A : Option Addr) (n c : Nat) (PP : List (List Pr)) (hl : PP.length = n) (hR : RowsP w A PP) (hn : n ≤ 9223372036854775807) (hi : ∀ X ∈ PP, X.length ≤ 9223372036854775807) :
    Calls Tryz.prog 13 #[.slice A n c] w fun e w' => PairsRes w (pairsOf PP) (pairsOf PP).length e w' := by
  obtain ⟨i0, hi0, hz0, hz1, hz2⟩ := info_parts infoPrS
  obtain ⟨j0, hj0, hy0, hy1, hy2⟩ := info_parts infoPrE
  have HR := Lib.hid hR
  have HL := Lib.hid hl
  have HI := Lib.hid hi
  clear hR hl hi
  go_enter Tryz.func13, Tryz.ntmps13
  go_wp2_with fail
  go_loopw [3, 4, 5, 6, 7] (fun v i _ _ _ wr => ∃ (k : Nat) (A1 : Option Addr) (c1 : Nat) (VS : List Value), k ≤ n ∧ k ≤ 12 ∧ i = .int .i64 k ∧ v = .slice A1 k c1 ∧ wr.ownsRow w.heap.size 38 1 (.slice A1 k c1) k VS ∧ RPB wr A1 VS ((PP.take k).map pairsIn) ∧ Keeps (fun _ => False) w wr) (fun _ i _ _ _ _ => 12 - (RowKit.intOf i).toNat)
  case atStart => exact ⟨0, none, 0, [], Nat.zero_le _, Nat.zero_le _, rfl, rfl, World.ownsRow_nil w w.heap.size 38 1, RPB.nil _ _, Keeps.refl _ _⟩
  case round =>
    obtain ⟨k, A1, c1, VS, hk, hk12, rfl, rfl, hown, hRB, hK⟩ := hrel
    have HRB := Lib.hid hRB
    have HOW := Lib.hid hown
    have HK := Lib.hid hK
    have HA1 : Hid (∀ q, ob A1 = some q → q < wr.heap.size) := Lib.hid fun q hq => (hown.lt q (by rw [ownBlock_slice]; exact hq)).2
    clear hRB hown hK
    by_cases hlt : k < n ∧ k < 12
    · obtain ⟨hlt, hlm⟩ := hlt
      have l1 : (k : Int) < (n : Int) := by omega
      have l2 : (k : Int) < (12 : Int) := by omega
      obtain ⟨L, hL⟩ : ∃ L, PP[k]? = some L := ⟨_, List.getElem?_eq_getElem (by rw [HL.out]; exact hlt)⟩
      have HT := Lib.hid (pairs_step hL)
      obtain ⟨ad, B, d, rfl, hlb, hcell, hRd⟩ := (HR.out.keeps HK.out) k L hL
      have hm63 := HI.out L (List.mem_of_getElem? hL)
      have HRD := Lib.hid hRd
      clear hL hRd
      generalize hmm : L.length = mm at *
      have HMM := Lib.hid hmm
      clear hmm
      go_wp2_with fail
      generalize hwo : wr = wo at *
      clear hwo
      go_loopw [5, 6, 7] (fun x j _ wi => ∃ (q : Nat) (X : Option Addr) (cx : Nat), q ≤ mm ∧ q ≤ 8 ∧ j = .int .i64 q ∧ x = .slice X q cx ∧ wi.ownsRow wo.heap.size 40 2 (.slice X q cx) q (prC ((L.take q).map cutP)) ∧ Keeps (fun _ => False) wo wi) (fun _ j _ _ => 8 - (RowKit.intOf j).toNat)
      case atStart => exact ⟨0, none, 0, Nat.zero_le _, Nat.zero_le _, rfl, rfl, World.ownsRow_nil wo wo.heap.size 40 2, Keeps.refl _ _⟩
      case round =>
        obtain ⟨q, X, cx, hq, hq8, rfl, rfl, hox, hKi⟩ := hrel
        have HOX := Lib.hid hox
        have HKi := Lib.hid hKi
        clear hox hKi
        have hcw : wr.cell? (ad.add k) = some (.slice B mm d) := cellK HKi.out hcell
        by_cases hlt2 : q < mm ∧ q < 8
        · obtain ⟨hl3, hl4⟩ := hlt2
          have m1 : (q : Int) < (mm : Int) := by omega
          have m2 : (q : Int) < (8 : Int) := by omega
          obtain ⟨bd, ⟨x, y⟩, rfl, hbb, hp, hc1, hc2⟩ := Rd.pair (HRD.out.keeps HKi.out (fun _ _ h => h)) HMM.out hl3
          dsimp only at hc1 hc2
          have hc3 : wr.cell? { block := (bd.add (q * 2)).block, off := (bd.add (q * 2)).off + 1 } = some (.string y) := by rw [← Addr.add_add] at hc2; exact hc2
          have HCS := Lib.hid (cut_step hp)
          have hs0 : (fun w' => w'.cell? (ad.add k) = some (.slice (some bd) mm d) ∧ w'.cell? (bd.add (q * 2)) = some (.string x) ∧ w'.cell? { block := (bd.add (q * 2)).block, off := (bd.add (q * 2)).off + 1 } = some (.string y)) wr.drew := ⟨hcw, hc1, hc3⟩
          have hs1 : (fun w' => w'.cell? (ad.add k) = some (.slice (some bd) mm d) ∧ w'.cell? (bd.add (q * 2)) = some (.string x) ∧ w'.cell? { block := (bd.add (q * 2)).block, off := (bd.add (q * 2)).off + 1 } = some (.string y)) (wr.drew.alloc (.cells #[.string x, .string y] 9)) := ⟨cellK ((Keeps.refl _ _).alloc _) hs0.1, cellK ((Keeps.refl _ _).alloc _) hs0.2.1, cellK ((Keeps.refl _ _).alloc _) hs0.2.2⟩
          have HW := Lib.hid (show Calls Tryz.prog 7 #[.slice (some ⟨wr.heap.size, 0, none⟩) 2 2, .int .i64 2] (wr.drew.alloc (.cells #[.string x, .string y] 9)) (fun e w' => OwnRes (wr.drew.alloc (.cells #[.string x, .string y] 9)) 9 [.string (cut60 x), .string (cut60 y)] 2 e w') from arWords (wr.drew.alloc (.cells #[.string x, .string y] 9)) (some ⟨wr.heap.size, 0, none⟩) 2 2 2 [x, y] rfl (Rd.whole (Whole.new wr.drew 9 #[.string x, .string y]) rfl rfl) (by omega) (by omega))
          have HKd := Lib.hid ((Keeps.refl (fun _ => False) wr).drew.alloc (.cells #[.string x, .string y] 9))
          clear hp hc2
          go_wp2_with fail
          go_region_held3 (fun w' => w'.cell? (ad.add k) = some (.slice (some bd) mm d) ∧ w'.cell? (bd.add (q * 2)) = some (.string x) ∧ w'.cell? { block := (bd.add (q * 2)).block, off := (bd.add (q * 2)).off + 1 } = some (.string y)) (first | exact hs0 | exact hs1 | exact hs2) (first
            | (go_at_call 7; refine HW.out.mono ?_; rintro e wz ⟨Aw, cw, rfl, ow, Kw, _⟩; have hs2 : (fun w' => w'.cell? (ad.add k) = some (.slice (some bd) mm d) ∧ w'.cell? (bd.add (q * 2)) = some (.string x) ∧ w'.cell? { block := (bd.add (q * 2)).block, off := (bd.add (q * 2)).off + 1 } = some (.string y)) wz := ⟨cellK Kw hs1.1, cellK Kw hs1.2.1, cellK Kw hs1.2.2⟩))
          have HKz := Lib.hid (HKd.out.trans Kw (fun _ _ h => h))
          obtain ⟨g2, rfl⟩ := (own_cap ow).2.2 (by omega)
          obtain ⟨ad2, e2, hb2, hcc⟩ := (Rd.own ow).2 (by omega)
          injection e2 with e2
          subst e2
          have d0 : wz.cell? ⟨g2, 0, none⟩ = some (.string (cut60 x)) := by have := hcc 0 _ rfl; rwa [add_lit', Nat.zero_add] at this
          have d1 : wz.cell? ⟨g2, 1, none⟩ = some (.string (cut60 y)) := by have := hcc 1 _ rfl; rwa [add_lit', Nat.zero_add] at this
          have t0 : (fun w' => w'.cell? ⟨g2, 0, none⟩ = some (.string (cut60 x)) ∧ w'.cell? ⟨g2, 1, none⟩ = some (.string (cut60 y))) wz.drew := ⟨d0, d1⟩
          have t1 : (fun w' => w'.cell? ⟨g2, 0, none⟩ = some (.string (cut60 x)) ∧ w'.cell? ⟨g2, 1, none⟩ = some (.string (cut60 y))) (wz.drew.alloc (.cells #[.string (cut60 x), .string (cut60 y)] 40)) := ⟨cellK ((Keeps.refl _ _).alloc _) d0, cellK ((Keeps.refl _ _).alloc _) d1⟩
          have K3 := (Keeps.refl (fun _ => False) wz).drew.alloc (.cells #[.string (cut60 x), .string (cut60 y)] 40)
          have hoxw := own_keeps HOX.out HKz.out (fun _ _ h => h)
          have nX : ob X ≠ some g2 := by have := own_apart ow hoxw (by decide); simp only [ownBlock_slice] at this; exact this g2 rfl
          have hoxz := own_keeps (own_keeps HOX.out HKz.out (fun _ _ h => h)) K3 (fun _ _ h => h)
          have hKo3 := (HKi.out.trans HKz.out (fun _ _ h => h)).trans K3 (fun _ _ h => h)
          have hrd := rd_two wz.drew 40 (.string (cut60 x)) (.string (cut60 y))
          clear hs0 hs1 hs2 hcc ow
          go_wp2_with fail
          go_region_held3 (fun w' => w'.cell? ⟨g2, 0, none⟩ = some (.string (cut60 x)) ∧ w'.cell? ⟨g2, 1, none⟩ = some (.string (cut60 y))) (first | exact t0 | exact t1 | exact t2) (
            (refine step_append_rd _ rfl (.tmp 49) (.tmp 57) _ rfl wo.heap.size 40 j0 _ 2 32 Tryz.underlying38 hj0 hy0 hy1 hy2 rfl (by omega) X cx q _ rfl hoxz (some ⟨wz.heap.size, 0, none⟩) 1 1 [.string (cut60 x), .string (cut60 y)] rfl hrd (by intro u hu; rcases List.mem_cons.1 hu with rfl | hu; rfl; rw [List.mem_singleton.1 hu]; rfl) (by simp only [maxLen]; omega) (by omega) hKo3.size ?_
             intro X2 cx2 w4 o4 hg4 hat4
             have K4 := hKo3.grown hg4 (fun i hi => .inr (hoxz.lt i (by rw [ownBlock_slice]; exact hi)).1)
             have t2 : (fun w' => w'.cell? ⟨g2, 0, none⟩ = some (.string (cut60 x)) ∧ w'.cell? ⟨g2, 1, none⟩ = some (.string (cut60 y))) w4 := ⟨cellG hg4 t1.1 nX, cellG hg4 t1.2 nX⟩))
          all_goals
            rw [show prC ((L.take q).map cutP) ++ [.string (cut60 x), .string (cut60 y)] = prC ((L.take (q + 1)).map cutP) by rw [HCS.out, prC_snoc]; rfl] at o4
            have HO4 := Lib.hid o4
            have HK4 := Lib.hid K4
            clear o4 K4 t0 t1 t2 hoxz hoxw hKo3 K3 d0 d1 hrd
            go_wp2_with fail
            go_roundw
            case rel => exact ⟨q + 1, X2, cx2, by omega, by omega, by go_num, rfl, HO4.out, HK4.out⟩
            case measure => (first | (simp [RowKit.intOf]; done) | (simp [RowKit.intOf]; omega))
        · have HQL := Lib.hid (show (pairsIn L).length = q by rw [pairsIn, List.length_map, List.length_take, HMM.out]; omega)
          have HQE := Lib.hid (show (L.take q).map cutP = pairsIn L by
            rw [pairsIn]
            by_cases e : q = 8
            · rw [e]
            · rw [List.take_of_length_le (by rw [HMM.out]; omega), List.take_of_length_le (by rw [HMM.out]; omega)])
          have hnot : (q : Int) < (mm : Int) → ¬ (q : Int) < (8 : Int) := by omega
          have hox := HOX.out
          rw [HQE.out] at hox
          have hRX := Rd.own hox
          have hKX := (Keeps.refl (fun _ => False) wr).alloc (.cells #[.slice X q cx] 38)
          have hwa := own_keeps (own_keeps HOW.out HKi.out (fun _ _ h => h)) hKX (fun _ _ h => h)
          have hKa := (HK.out.trans HKi.out (fun _ _ h => h)).trans hKX (fun _ _ h => h)
          have hRB2 := (HRB.out.keeps HKi.out).keeps hKX
          have hRX2 := hRX.keeps hKX (fun _ _ h => h)
          have hXlt : ∀ z, ob X = some z → z < (World.heap (wr.alloc (.cells #[.slice X q cx] 38))).size ∧ ob A1 ≠ some z := fun z hz => by
            have h1 := hox.lt z (by rw [ownBlock_slice]; exact hz)
            refine ⟨Nat.lt_of_lt_of_le h1.2 hKX.size, fun e => ?_⟩
            have := HA1.out z e
            omega
          have HRB2 := Lib.hid hRB2
          have HRX2 := Lib.hid hRX2
          have HXL := Lib.hid hXlt
          clear hox hRX hRB2 hRX2 hXlt hlt2
          by_cases q1 : (q : Int) < (mm : Int)
          · have q2 : ¬ (q : Int) < (8 : Int) := hnot q1
            clear hnot
            go_wp2_with (at_builtin
                         refine wpList_append_rd _ rfl (.tmp 59) (.tmp 61) _ rfl w.heap.size 38 i0 _ 1 24 Tryz.underlying35 hi0 hz0 hz1 hz2 rfl Nat.one_pos A1 c1 k _ rfl hwa (some ⟨wr.heap.size, 0, none⟩) 1 1 [.slice X q cx] rfl (rd_one wr 38 _) (one_val _ rfl) (by simp only [maxLen]; omega) (by omega) hKa.size ?_
                         intro A3 c3 w3 hown3 hg3 hat3)
            have hK3 := hKa.grown hg3 (fun i hi => .inr (hwa.lt i (by rw [ownBlock_slice]; exact hi)).1)
            have hRB3 := HRB2.out.snoc (B := X) (d := cx) (L := pairsIn L) (by rw [HQL.out]; exact HRX2.out) HXL.out hg3 hat3
            rw [HQL.out, ← HT.out] at hRB3
            have HF1 := Lib.hid hown3
            have HF2 := Lib.hid hRB3
            have HF3 := Lib.hid hK3
            clear hown3 hRB3 hK3 hwa hKa hKX
            go_roundw
            case rel => exact ⟨k + 1, A3, c3, _, by omega, by omega, by go_num, rfl, HF1.out, HF2.out, HF3.out⟩
            case measure => (first | (simp [RowKit.intOf]; done) | (simp [RowKit.intOf]; omega))
          · clear hnot
            go_wp2_with (at_builtin
                         refine wpList_append_rd _ rfl (.tmp 59) (.tmp 61) _ rfl w.heap.size 38 i0 _ 1 24 Tryz.underlying35 hi0 hz0 hz1 hz2 rfl Nat.one_pos A1 c1 k _ rfl hwa (some ⟨wr.heap.size, 0, none⟩) 1 1 [.slice X q cx] rfl (rd_one wr 38 _) (one_val _ rfl) (by simp only [maxLen]; omega) (by omega) hKa.size ?_
                         intro A3 c3 w3 hown3 hg3 hat3)
            have hK3 := hKa.grown hg3 (fun i hi => .inr (hwa.lt i (by rw [ownBlock_slice]; exact hi)).1)
            have hRB3 := HRB2.out.snoc (B := X) (d := cx) (L := pairsIn L) (by rw [HQL.out]; exact HRX2.out) HXL.out hg3 hat3
            rw [HQL.out, ← HT.out] at hRB3
            have HF1 := Lib.hid hown3
            have HF2 := Lib.hid hRB3
            have HF3 := Lib.hid hK3
            clear hown3 hRB3 hK3 hwa hKa hKX
            go_roundw
            case rel => exact ⟨k + 1, A3, c3, _, by omega, by omega, by go_num, rfl, HF1.out, HF2.out, HF3.out⟩
            case measure => (first | (simp [RowKit.intOf]; done) | (simp [RowKit.intOf]; omega))
    · have HE := Lib.hid (show PP.take 12 = PP.take k by
        by_cases e : k = 12
        · rw [e]
        · have : k = n := by omega
          rw [List.take_of_length_le (by rw [HL.out]; omega), List.take_of_length_le (by rw [HL.out]; omega)])
      have HKL := Lib.hid (show (pairsOf PP).length = k + 1 by rw [pairsOf, List.length_append, List.length_map, HE.out, List.length_take, HL.out]; simp; omega)
      have hnot : (k : Int) < (n : Int) → ¬ (k : Int) < (12 : Int) := by omega
      clear hlt
      have KX := (Keeps.refl (fun _ => False) wr).alloc (.cells #[.string ⟨#[107]⟩, .string ⟨#[118]⟩] 40)
      have hsx : (World.heap (wr.alloc (.cells #[.string ⟨#[107]⟩, .string ⟨#[118]⟩] 40))).size = wr.heap.size + 1 := by simp
      have KY := (Keeps.refl (fun _ => False) (wr.alloc (.cells #[.string ⟨#[107]⟩, .string ⟨#[118]⟩] 40))).alloc (.cells #[.slice (some ⟨wr.heap.size, 0, none⟩) 1 1] 38)
      have hRX : Rd (wr.alloc (.cells #[.string ⟨#[107]⟩, .string ⟨#[118]⟩] 40)) 2 (some ⟨wr.heap.size, 0, none⟩) 1 (prC [((⟨#[107]⟩ : ByteArray), (⟨#[118]⟩ : ByteArray))]) := rd_two wr 40 _ _
      have howna := own_keeps (own_keeps HOW.out KX (fun _ _ h => h)) KY (fun _ _ h => h)
      have hKa := (HK.out.trans KX (fun _ _ h => h)).trans KY (fun _ _ h => h)
      have hro := rd_one (wr.alloc (.cells #[.string ⟨#[107]⟩, .string ⟨#[118]⟩] 40)) 38 (.slice (some ⟨wr.heap.size, 0, none⟩) 1 1)
      rw [hsx] at hro
      have HSX := Lib.hid hsx
      clear hsx
      by_cases q1 : (k : Int) < (n : Int)
      · have q2 : ¬ (k : Int) < (12 : Int) := hnot q1
        clear hnot
        go_wp2_with (at_builtin
                     refine wpList_append_rd _ rfl (.tmp 63) (.tmp 66) _ rfl w.heap.size 38 i0 _ 1 24 Tryz.underlying35 hi0 hz0 hz1 hz2 rfl Nat.one_pos A1 c1 k _ rfl howna (some ⟨wr.heap.size + 1, 0, none⟩) 1 1 [.slice (some ⟨wr.heap.size, 0, none⟩) 1 1] rfl hro (one_val _ rfl) (by simp only [maxLen]; omega) (by omega) hKa.size ?_
                     intro A3 c3 w3 hown3 hg3 hat3)
        have hK3 := hKa.grown hg3 (fun i hi => .inr (howna.lt i (by rw [ownBlock_slice]; exact hi)).1)
        have hRB3 := (((HRB.out.keeps KX).keeps KY).snoc (L := [((⟨#[107]⟩ : ByteArray), (⟨#[118]⟩ : ByteArray))]) (B := some ⟨wr.heap.size, 0, none⟩) (d := 1) (hRX.keeps KY (fun _ _ h => h)) (fun z hz => by
          simp [ob] at hz
          subst hz
          refine ⟨by have := KY.size; have := HSX.out; omega, fun e => ?_⟩
          have := HA1.out _ e
          omega) hg3 hat3)
        have hfin := RPB.rows hRB3 hown3
        have HFIN := Lib.hid (show RowsP w3 A3 (pairsOf PP) by
          rw [pairsOf, HE.out]
          exact hfin)
        clear hfin hRB3
        go_ret
        rw [HKL.out]
        exact ⟨A3, c3, rfl, HFIN.out, hK3⟩
      · clear hnot
        go_wp2_with (at_builtin
                     refine wpList_append_rd _ rfl (.tmp 63) (.tmp 66) _ rfl w.heap.size 38 i0 _ 1 24 Tryz.underlying35 hi0 hz0 hz1 hz2 rfl Nat.one_pos A1 c1 k _ rfl howna (some ⟨wr.heap.size + 1, 0, none⟩) 1 1 [.slice (some ⟨wr.heap.size, 0, none⟩) 1 1] rfl hro (one_val _ rfl) (by simp only [maxLen]; omega) (by omega) hKa.size ?_
                     intro A3 c3 w3 hown3 hg3 hat3)
        have hK3 := hKa.grown hg3 (fun i hi => .inr (howna.lt i (by rw [ownBlock_slice]; exact hi)).1)
        have hRB3 := (((HRB.out.keeps KX).keeps KY).snoc (L := [((⟨#[107]⟩ : ByteArray), (⟨#[118]⟩ : ByteArray))]) (B := some ⟨wr.heap.size, 0, none⟩) (d := 1) (hRX.keeps KY (fun _ _ h => h)) (fun z hz => by
          simp [ob] at hz
          subst hz
          refine ⟨by have := KY.size; have := HSX.out; omega, fun e => ?_⟩
          have := HA1.out _ e
          omega) hg3 hat3)
        have hfin := RPB.rows hRB3 hown3
        have HFIN := Lib.hid (show RowsP w3 A3 (pairsOf PP) by
          rw [pairsOf, HE.out]
          exact hfin)
        clear hfin hRB3
        go_ret
        rw [HKL.out]
        exact ⟨A3, c3, rfl, HFIN.out, hK3⟩
end Go.Proofs.YtkgjchfbbpabpaaGreat
