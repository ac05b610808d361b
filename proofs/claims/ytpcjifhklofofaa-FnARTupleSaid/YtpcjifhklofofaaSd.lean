/- A column of strings decoded from a reader. Conditions: the bytes are there, at least one row; sizes far below the machine's. -/
import Derived.Test.YtpcjifhklofofaaSe
import Derived.Deep.RegionLaw
import Derived.Deep.RegionWith
import Derived.Deep.RegionHeld3
import Derived.Deep.CutRange
import Derived.Deep.LoopGhost
namespace Go.Proofs.Ytpcjifhklofofaa
open Go.RowKit Go.Lib
set_option linter.unusedVariables false
def SdRes (w : World) (base rb bb g : Nat) (D R : Option Nat) (L : List (List UInt8)) (d : List UInt8) (e : Ending) (w' : World) : Prop :=
  e = .returned .nilIface ∧ ∃ A c B cB R', ColAt w' base g A c B cB L ∧ RdrOn w' base rb bb D R' d ∧ (R' = R ∨ ∀ i, R' = some i → w.heap.size ≤ i) ∧ (∀ i, ob A = some i → R' ≠ some i) ∧ Keeps (fun i => i = g ∨ i = rb ∨ i = bb ∨ R = some i) w w'
def Sd6 (W1 : World) (g n : Nat) (wc : World) : Prop := ∃ cP B, wc.ownsRow W1.heap.size 101 2 (.slice (some B) n cP) n (Builtin.zeroCells (Value.agg #[.int .i64 0, .int .i64 0]).cells n).toList ∧ Whole wc g 57 #[.slice none 0 0, .slice (some B) n cP] ∧ Keeps (fun i => i = g) W1 wc
def SdEnd (w wc : World) (base rb bb g : Nat) (D R : Option Nat) (L : List (List UInt8)) (d : List UInt8) (k : Nat) : Prop :=
  ∃ (A : Option Addr) (M c : Nat) (B : Option Addr) (cB x : Nat) (cells : List Value) (R1 : Option Nat), M ≤ 30000000 ∧ SdAt w wc base rb bb g D R A M c B cB x (L.take k).flatten.length (L.take k) (L.take k).flatten cells R1 (encB (L.drop k) ++ d)
def SdMid (w wc : World) (base rb bb g : Nat) (D R : Option Nat) (L : List (List UInt8)) (d l : List UInt8) (k y y2 : Nat) : Prop :=
  ∃ (A : Option Addr) (M c : Nat) (B : Option Addr) (cB : Nat) (cells : List Value) (R1 : Option Nat), M ≤ 30000000 ∧ y2 ≤ M ∧ SdAt w wc base rb bb g D R A M c B cB y y2 (L.take k) (L.take k).flatten cells R1 (l ++ (encB (L.drop (k + 1)) ++ d))
def SdBeh (w wc : World) (base rb bb g : Nat) (D R : Option Nat) (L : List (List UInt8)) (d l : List UInt8) (k y y2 : Nat) : Prop :=
  ∃ (A : Option Addr) (M c : Nat) (B : Option Addr) (cB : Nat) (cells : List Value) (R1 : Option Nat), M ≤ 30000000 ∧ SdAt w wc base rb bb g D R A M c B cB y y2 (L.take k) ((L.take k).flatten ++ l) cells R1 (encB (L.drop (k + 1)) ++ d)
set_option maxRecDepth 100000 in
set_option maxHeartbeats 8000000 in
theorem decStr (w : World) (base rb bb g : Nat) (D R : Option Nat) (L : List (List UInt8)) (n : Nat) (d : List UInt8) (hl : L.length = n) (h0 : 0 < n) (hn : n ≤ 1000) (hF : L.flatten.length ≤ 10000000) (hC : ColAt w base g none 0 none 0 []) (hR : RdrOn w base rb bb D R (encB L ++ d)) (hpre : SdPre w rb bb g D R) :
    Calls Try.prog 60 #[.pointer (some ⟨g, 0, none⟩), .pointer (some ⟨rb, 0, none⟩), .int .i64 (n : Int)] w (SdRes w base rb bb g D R L d) := by
  obtain ⟨j0, hj0, hj1, hj2, hj3⟩ := info_parts infoPos
  obtain ⟨i0, hi0, hz0, hz1, hz2⟩ := info_parts infoU8
  obtain ⟨M0, hM⟩ : ∃ M, (encB L ++ d).length = M := ⟨_, rfl⟩
  have hMn : n ≤ M0 := by
    have := encB_min L
    rw [← hM, List.length_append]
    omega
  have K0 := (Keeps.refl (fun _ => False) w).alloc (.cells #[.int .i64 0, .int .i64 0] 101)
  have HLE := leftOf _ base rb bb D R (encB L ++ d) (hR.new K0)
  rw [hM] at HLE
  have HL := Lib.hid HLE
  have hb := (hC.new K0).blk
  have hpp := Whole.new w 101 #[.int .i64 0, .int .i64 0]
  have HR00 := Lib.hid hR
  have hs0 : (World.heap (w.alloc (.cells #[.int .i64 0, .int .i64 0] 101))).size = w.heap.size + 1 := by simp
  have HS0 := Lib.hid hs0
  have HBLO := Lib.hid hC.lo
  have c0 : (w.alloc (.cells #[.int .i64 0, .int .i64 0] 101)).cell? ⟨g, 0, none⟩ = some (.slice none 0 0) := hb.cell 0
  have c1 : (w.alloc (.cells #[.int .i64 0, .int .i64 0] 101)).cell? ⟨g, 1, none⟩ = some (.slice none 0 0) := hb.cell 1
  have f1 := hb.frozen 1
  have hlt := hb.lt
  have HPP := Lib.hid hpp
  have HK0 := Lib.hid K0
  have HPRE := Lib.hid hpre
  have HLN := Lib.hid hl
  have HFL := Lib.hid hF
  have hMi : ¬ (M0 : Int) < (n : Int) := by omega
  have hni : (0 : Int) < (n : Int) := by omega
  have q1 : IntKind.i64.wrap (n : Int) = (n : Int) := by rw [IntKind.wrap_i64]; omega
  have q2 : IntKind.i64.wrap (0 + (n : Int)) = (n : Int) := by rw [IntKind.wrap_i64]; omega
  have q3 : IntKind.i64.wrap ((n : Int) - 0) = (n : Int) := by rw [IntKind.wrap_i64]; omega
  clear HLE hM hs0 hpp K0 hpre hR hC hF hl
  go_enter Try.func60, Try.ntmps60
  go_wp2_with fail
  refine HL.out.mono ?_
  rintro e w1 ⟨rfl, rfl⟩
  go_wp2_with fail
  generalize hW1 : w.alloc (.cells #[.int .i64 0, .int .i64 0] 101) = W1 at *
  have HW1 := Lib.hid hW1
  clear hW1
  go_cut [] from 14 (fun wc => Sd6 W1 g n wc)
  case first =>
    have hbd := hb.drew
    have d0 : W1.drew.cell? ⟨g, 0, none⟩ = some (.slice none 0 0) := hbd.cell 0
    have d1 : W1.drew.cell? ⟨g, 1, none⟩ = some (.slice none 0 0) := hbd.cell 1
    go_region_law (first
      | (refine step_append_nil _ rfl (.tmp 39) (.tmp 48) _ _ rfl W1.heap.size 101 j0 _ .i64 .i64 2 16 Try.underlying55 Try.underlying3 hj0 hj1 hj2 hj3 rfl (by omega) rfl n rfl h0 (by simp only [maxLen]; omega) (by omega) (by simp) ?_
         intro cP w2 oP hgP hsP
         have K2 : Keeps (fun _ => False) W1 w2 := (Keeps.refl _ W1).drew.grown hgP (fun k hk => by cases hk)
         have hb2 := hb.keeps K2 (fun h => h)
         have f20 : w2.frozen? ⟨g, 0, none⟩ = false := hb2.frozen 0
         have f21 : w2.frozen? ⟨g, 1, none⟩ = false := hb2.frozen 1
         have e21 : w2.cell? ⟨g, 1, none⟩ = some (.slice none 0 0) := hb2.cell 1
         have hl2 := hb2.lt
         have HOP := Lib.hid oP
         have HK2 := Lib.hid K2
         have HB2 := Lib.hid hb2
         clear oP K2 hb2 hgP hsP))
    all_goals
      go_wp2_with fail
      go_meet
      case rel =>
        refine ⟨cP, _, own_keeps HOP.out ((Keeps.refl (fun i => i = g) w2).setCell (p := ⟨g, 1, none⟩) (.inl rfl) _) (fun k hk e => ?_), HB2.out.put 1 _, HK2.out.mono (S' := fun i => i = g) (fun _ _ h => h.elim) |>.trans ((Keeps.refl (fun i => i = g) w2).setCell (p := ⟨g, 1, none⟩) (.inl rfl) _) (fun _ _ h => h)⟩
        have h1 := (HOP.out.lt k hk).1
        omega
  case rest =>
    obtain ⟨cP, BP, hoP, hbP, hkP⟩ := hcut
    have e0 : wc.cell? ⟨g, 0, none⟩ = some (.slice none 0 0) := hbP.cell 0
    have e1 : wc.cell? ⟨g, 1, none⟩ = some (.slice (some BP) n cP) := hbP.cell 1
    have f0 : wc.frozen? ⟨g, 0, none⟩ = false := hbP.frozen 0
    have f1' : wc.frozen? ⟨g, 1, none⟩ = false := hbP.frozen 1
    have hlc := hbP.lt
    have HOP := Lib.hid hoP
    have HBP := Lib.hid hbP
    have HKP := Lib.hid hkP
    clear hoP hbP hkP c0 c1 f1 hb
    go_wp2_with fail
    go_region
    go_wp2_with fail
    go_loopg [9] n (fun gk i wr => ∃ k : Nat, k ≤ n ∧ gk = n - k ∧ i = .int .i64 k ∧ SdEnd w wr base rb bb g D R L d k)
    case atStart => exact ⟨0, Nat.zero_le _, rfl, rfl, none, 0, 0, some BP, cP, 0, [], R, by omega, sd_start HPRE.out HW1.out HR00.out HOP.out HBP.out HKP.out⟩
    case round =>
      clear e0 e1 f0 f1' hlc
      obtain ⟨k, hk, hgk, rfl, A, M, c, B, cB, x, cells, R1, hMb, hS⟩ := hrel
      by_cases hlt2 : k < n
      · obtain ⟨l, hlk⟩ : ∃ l, L[k]? = some l := ⟨_, List.getElem?_eq_getElem (by rw [HLN.out]; exact hlt2)⟩
        have hflat := take_flat hlk
        have hfle := flat_le L (k + 1)
        rw [hflat, List.length_append] at hfle
        have hFF := HFL.out
        rw [encB_drop hlk, List.append_assoc, List.append_assoc] at hS
        have HFLAT := Lib.hid hflat
        have HTK := Lib.hid (show L.take (k + 1) = L.take k ++ [l] by rw [List.take_add_one, hlk]; rfl)
        have HTL := Lib.hid (show (L.take k).length = k by rw [List.length_take, HLN.out]; omega)
        have hS := hS
        generalize hm : l.length = m at *
        generalize hy : (L.take k).flatten.length = y at *
        obtain ⟨y2, hy2⟩ : ∃ y2, y + m = y2 := ⟨_, rfl⟩
        have HSL := Lib.hid (strLen wr base rb bb D R1 m _ (by omega) hS.rdr)
        have hwr : IntKind.i64.wrap ((y : Int) + (m : Int)) = (y2 : Int) := by rw [IntKind.wrap_i64]; omega
        have hb1 : y2 ≤ 10000000 := by omega
        have HS := Lib.hid hS
        have HM := Lib.hid hm
        have HY := Lib.hid hy
        have HY2 := Lib.hid hy2
        clear hS hlk hflat hfle hFF hm hy hy2
        go_wp2_with fail
        refine HSL.out.mono ?_
        rintro e w2 ⟨rfl, hG⟩
        obtain ⟨R2, hS2⟩ := HS.out.go HPRE.out hG
        have hz : ¬ (((l ++ (encB (L.drop (k + 1)) ++ d)).length : Nat) : Int) < (m : Int) := by rw [List.length_append, HM.out]; omega
        have HLF := Lib.hid (leftOf w2 base rb bb D R2 _ hS2.rdr)
        generalize (l ++ (encB (L.drop (k + 1)) ++ d)).length = Z at HLF hz
        have p0 : w2.cell? ⟨w.heap.size, 0, none⟩ = some (.int .i64 (x : Int)) := hS2.pp.cell 0
        have p1 : w2.cell? ⟨w.heap.size, 1, none⟩ = some (.int .i64 (y : Int)) := hS2.pp.cell 1
        have z0 : w2.frozen? ⟨w.heap.size, 0, none⟩ = false := hS2.pp.frozen 0
        have z1 : w2.frozen? ⟨w.heap.size, 1, none⟩ = false := hS2.pp.frozen 1
        have hpl := hS2.pp.lt
        have hsA := hS2.put0 HPRE.out 0 (.int .i64 (y : Int)) y y rfl
        have hsB := hsA.put0 HPRE.out 1 (.int .i64 (y2 : Int)) y y2 rfl
        have HSB := Lib.hid hsB
        clear hG hS2 hsA hsB
        go_wp2_with fail
        refine HLF.out.mono ?_
        rintro e w3 ⟨rfl, rfl⟩
        go_wp2_with fail
        generalize (w2.setCell ⟨w.heap.size, 0, none⟩ (.int .i64 (y : Int))).setCell ⟨w.heap.size, 1, none⟩ (.int .i64 (y2 : Int)) = W3 at *
        clear p0 p1 z0 z1 hpl
        have HSD := Lib.hid (HSB.out.new0 (Keeps.refl (fun _ => False) W3).drew)
        have s0 : W3.cell? ⟨g, 0, none⟩ = some (.slice A M c) := HSB.out.blk.cell 0
        have s1 : W3.cell? ⟨w.heap.size, 1, none⟩ = some (.int .i64 (y2 : Int)) := HSB.out.pp.cell 1
        have sl0 := HSB.out.blk.lt
        go_region
        go_upto_if 115 with fail
        clear s0 s1 sl0
        generalize W3.drew = W3d at *
        have s0 : W3d.cell? ⟨g, 0, none⟩ = some (.slice A M c) := HSD.out.blk.cell 0
        have s1 : W3d.cell? ⟨w.heap.size, 1, none⟩ = some (.int .i64 (y2 : Int)) := HSD.out.pp.cell 1
        have sl0 := HSD.out.blk.lt
        go_cut [] from 73 to 160 (fun wc => SdMid w wc base rb bb g D R L d l k y y2)
        case first =>
          by_cases hroom : M < y2
          · have hy2 := HY2.out
            have hm0 : 0 < m := by
              have := HSD.out.buf.1
              obtain ⟨rest, hrest⟩ := HSD.out.got
              have h3 : (Lib.byteCells (L.take k).flatten).length ≤ cells.length := by rw [hrest, List.length_append]; omega
              rw [Lib.byteCells_length, HY.out] at h3
              omega
            have hnk : 0 < n - k := by omega
            have hyM : y ≤ M := by
              have := HSD.out.buf.1
              obtain ⟨rest, hrest⟩ := HSD.out.got
              have h3 : (Lib.byteCells (L.take k).flatten).length ≤ cells.length := by rw [hrest, List.length_append]; omega
              rw [Lib.byteCells_length, HY.out] at h3
              omega
            have hW : w.heap.size ≤ W3d.heap.size := HSD.out.keeps.size
            by_cases h128 : m < 128
            · have hpr : m * (n - k) ≤ 127000 := Nat.le_trans (Nat.mul_le_mul (show m ≤ 127 by omega) (show n - k ≤ 1000 by omega)) (by omega)
              have hpr0 : 0 < m * (n - k) := Nat.mul_pos hm0 hnk
              obtain ⟨an, han⟩ : ∃ an, m * (n - k) = an := ⟨_, rfl⟩
              rw [han] at hpr hpr0
              have hq1 : IntKind.i64.wrap ((n : Int) - (k : Int)) = (n : Int) - (k : Int) := by rw [IntKind.wrap_i64]; omega
              have hq3 : (m : Int) * ((n : Int) - (k : Int)) = (an : Int) := by rw [← han, Int.natCast_mul, Int.natCast_sub (Nat.le_of_lt hlt2)]
              have hq2 : IntKind.i64.wrap ((m : Int) * ((n : Int) - (k : Int))) = (an : Int) := by rw [hq3, IntKind.wrap_i64]; omega
              have h1 : an ≤ 10000000 := by omega
              have hma : m ≤ an := by rw [← han]; exact Nat.le_mul_of_pos_right m hnk
              clear han hq3
              go_wp2_with (first
                | (at_builtin
                   refine wpList_append_zeros _ rfl (.tmp 128) (.tmp 129) _ _ rfl w.heap.size 5 i0 .i64 .i64 Try.underlying25 Try.underlying3 hi0 hz0 hz1 hz2 (.slice A M c) M _ rfl HSD.out.buf an _ rfl rfl hpr0 (by simp only [maxLen]; omega) (by omega) hW ?_
                   intro V1 w4 o1 hg1 hat1
                   rw [ownBlock_slice] at hg1 hat1
                   obtain ⟨g1, k1, hV1, hgl, hgs⟩ := o1.form (by omega)
                   subst hV1
                   have hb4 := HSD.out.blk.keeps ((Keeps.refl (fun i => ob A = some i) W3d).grown hg1 (fun k hk => .inl hk)) (fun e => by have := HSD.out.al g e; have := HPRE.out.gl; omega)
                   have e40 : w4.cell? ⟨g, 0, none⟩ = some (.slice A M c) := hb4.cell 0
                   have f40 : w4.frozen? ⟨g, 0, none⟩ = false := hb4.frozen 0
                   have hl4 := hb4.lt
                   have HAT := Lib.hid hat1
                   clear hat1 hb4))
              go_meet
              case rel =>
                have hat := HAT.out
                rw [ownBlock_slice] at hat
                exact ⟨some ⟨g1, 0, none⟩, M + an, k1, B, cB, _, R2, by omega, by omega, HSD.out.grow HPRE.out o1 hg1 hat⟩
            · have hpr0 : 0 < m := hm0
              have h1 : m ≤ 10000000 := by omega
              go_wp2_with (first
                | (at_builtin
                   refine wpList_append_zeros _ rfl (.tmp 128) (.tmp 129) _ _ rfl w.heap.size 5 i0 .i64 .i64 Try.underlying25 Try.underlying3 hi0 hz0 hz1 hz2 (.slice A M c) M _ rfl HSD.out.buf m _ rfl rfl hpr0 (by simp only [maxLen]; omega) (by omega) hW ?_
                   intro V1 w4 o1 hg1 hat1
                   rw [ownBlock_slice] at hg1 hat1
                   obtain ⟨g1, k1, hV1, hgl, hgs⟩ := o1.form (by omega)
                   subst hV1
                   have hb4 := HSD.out.blk.keeps ((Keeps.refl (fun i => ob A = some i) W3d).grown hg1 (fun k hk => .inl hk)) (fun e => by have := HSD.out.al g e; have := HPRE.out.gl; omega)
                   have e40 : w4.cell? ⟨g, 0, none⟩ = some (.slice A M c) := hb4.cell 0
                   have f40 : w4.frozen? ⟨g, 0, none⟩ = false := hb4.frozen 0
                   have hl4 := hb4.lt
                   have HAT := Lib.hid hat1
                   clear hat1 hb4))
              go_meet
              case rel =>
                have hat := HAT.out
                rw [ownBlock_slice] at hat
                exact ⟨some ⟨g1, 0, none⟩, M + m, k1, B, cB, _, R2, by omega, by omega, HSD.out.grow HPRE.out o1 hg1 hat⟩
          · go_wp2_with fail
            go_meet
            case rel => exact ⟨A, M, c, B, cB, cells, R2, hMb, by omega, HSD.out⟩
        case rest =>
          clear s0 s1 sl0
          obtain ⟨A4, M4, c4, B4, cB4, cells4, R4, hM4, hy4, hS4⟩ := hcut
          have HS4 := Lib.hid hS4
          have hc0 : wc.cell? ⟨g, 0, none⟩ = some (.slice A4 M4 c4) := hS4.blk.cell 0
          have hp0 : wc.cell? ⟨w.heap.size, 0, none⟩ = some (.int .i64 (y : Int)) := hS4.pp.cell 0
          have hp1 : wc.cell? ⟨w.heap.size, 1, none⟩ = some (.int .i64 (y2 : Int)) := hS4.pp.cell 1
          have hy2 := HY2.out
          have hmc : M4 ≤ c4 ∧ c4 ≤ maxLen := ⟨(own_cap hS4.buf).1, (own_cap hS4.buf).2.1⟩
          simp only [maxLen] at hmc
          obtain ⟨hmc1, hmc2⟩ := hmc
          have HBS := Lib.hid (show m ≤ (l ++ (encB (L.drop (k + 1)) ++ d)).length by rw [List.length_append, HM.out]; omega)
          have HTK2 := Lib.hid (show (l ++ (encB (L.drop (k + 1)) ++ d)).take m = l by rw [← HM.out, List.take_left])
          have HDR2 := Lib.hid (show (l ++ (encB (L.drop (k + 1)) ++ d)).drop m = encB (L.drop (k + 1)) ++ d by rw [← HM.out, List.drop_left])
          have hd0 : wc.drew.cell? ⟨g, 0, none⟩ = some (.slice A4 M4 c4) := hc0
          have hd1 : wc.drew.cell? ⟨w.heap.size, 0, none⟩ = some (.int .i64 (y : Int)) := hp0
          have hd2 : wc.drew.cell? ⟨w.heap.size, 1, none⟩ = some (.int .i64 (y2 : Int)) := hp1
          have HS4d := Lib.hid (hS4.new0 (Keeps.refl (fun _ => False) wc).drew)
          clear hS4
          go_wp2_with fail
          go_cut [13] from 73 to 160 (fun s13 wc => s13 = .nilIface ∧ SdBeh w wc base rb bb g D R L d l k y y2)
          case first =>
            rcases own_none HS4.out.buf with ⟨rfl, hz1, hz2⟩ | ⟨ga, rfl⟩
            · have hm0 : l = [] := List.eq_nil_of_length_eq_zero (by rw [HM.out]; omega)
              obtain rfl : y = 0 := by omega
              obtain rfl : y2 = 0 := by omega
              obtain rfl : M4 = 0 := hz1
              obtain rfl : c4 = 0 := hz2
              have HRF := Lib.hid (sdReadN HS4d.out HPRE.out)
              go_region_held3 (fun w' => w'.cell? ⟨g, 0, none⟩ = some (.slice none 0 0) ∧ w'.cell? ⟨w.heap.size, 0, none⟩ = some (.int .i64 ((0 : Nat) : Int)) ∧ w'.cell? ⟨w.heap.size, 1, none⟩ = some (.int .i64 ((0 : Nat) : Int))) (first | exact ⟨hd0, hd1, hd2⟩ | exact ⟨k0, k1, k2⟩) (
                (go_at_call 66
                 refine HRF.out.mono ?_
                 rintro e w5 ⟨rfl, cells5, hS5⟩
                 have k0 : w5.cell? ⟨g, 0, none⟩ = some (.slice none 0 0) := hS5.blk.cell 0
                 have k1 : w5.cell? ⟨w.heap.size, 0, none⟩ = some (.int .i64 ((0 : Nat) : Int)) := hS5.pp.cell 0
                 have k2 : w5.cell? ⟨w.heap.size, 1, none⟩ = some (.int .i64 ((0 : Nat) : Int)) := hS5.pp.cell 1
                 have HS5 := Lib.hid hS5
                 clear hS5))
              all_goals
                go_wp2_with fail
                go_meet
                case rel => exact ⟨rfl, none, 0, 0, B4, cB4, cells5, R4, by omega, by have h := HS5.out; rw [hm0] at h ⊢; simpa using h⟩
            · by_cases hyc : y = c4
              · have hm0 : l = [] := List.eq_nil_of_length_eq_zero (by rw [HM.out]; omega)
                obtain rfl : y2 = c4 := by omega
                obtain rfl : y = y2 := by omega
                have HRF := Lib.hid (sdRead0 HS4d.out HPRE.out)
                go_region_held3 (fun w' => w'.cell? ⟨g, 0, none⟩ = some (.slice (some ⟨ga, 0, none⟩) M4 y) ∧ w'.cell? ⟨w.heap.size, 0, none⟩ = some (.int .i64 (y : Int)) ∧ w'.cell? ⟨w.heap.size, 1, none⟩ = some (.int .i64 (y : Int))) (first | exact ⟨hd0, hd1, hd2⟩ | exact ⟨k0, k1, k2⟩) (
                (go_at_call 66
                 refine HRF.out.mono ?_
                 rintro e w5 ⟨rfl, cells5, hS5⟩
                 have k0 : w5.cell? ⟨g, 0, none⟩ = some (.slice (some ⟨ga, 0, none⟩) M4 y) := hS5.blk.cell 0
                 have k1 : w5.cell? ⟨w.heap.size, 0, none⟩ = some (.int .i64 (y : Int)) := hS5.pp.cell 0
                 have k2 : w5.cell? ⟨w.heap.size, 1, none⟩ = some (.int .i64 (y : Int)) := hS5.pp.cell 1
                 have HS5 := Lib.hid hS5
                 clear hS5))
                all_goals
                  go_wp2_with fail
                  go_meet
                  case rel => exact ⟨rfl, some ⟨ga, 0, none⟩, M4, y, B4, cB4, cells5, R4, by omega, by have h := HS5.out; rw [hm0] at h ⊢; simpa using h⟩
              · have hym : y2 - y = m := by omega
                have HRF := Lib.hid (sdRead (m := m) (c4 - y) HS4d.out HPRE.out HY.out (by omega) HBS.out)
                rw [HTK2.out, HDR2.out] at HRF
                have f1 : (y : Int) ≤ (y2 : Int) := by omega
                have f2 : (y2 : Int) ≤ (c4 : Int) := by omega
                have f3 : ¬ (c4 = y) := fun h => hyc h.symm
                go_region_held3 (fun w' => w'.cell? ⟨g, 0, none⟩ = some (.slice (some ⟨ga, 0, none⟩) M4 c4) ∧ w'.cell? ⟨w.heap.size, 0, none⟩ = some (.int .i64 (y : Int)) ∧ w'.cell? ⟨w.heap.size, 1, none⟩ = some (.int .i64 (y2 : Int))) (first | exact ⟨hd0, hd1, hd2⟩ | exact ⟨k0, k1, k2⟩) (
                (go_at_call 66
                 refine HRF.out.mono ?_
                 rintro e w5 ⟨rfl, cells5, hS5⟩
                 have k0 : w5.cell? ⟨g, 0, none⟩ = some (.slice (some ⟨ga, 0, none⟩) M4 c4) := hS5.blk.cell 0
                 have k1 : w5.cell? ⟨w.heap.size, 0, none⟩ = some (.int .i64 (y : Int)) := hS5.pp.cell 0
                 have k2 : w5.cell? ⟨w.heap.size, 1, none⟩ = some (.int .i64 (y2 : Int)) := hS5.pp.cell 1
                 have HS5 := Lib.hid hS5
                 clear hS5))
                all_goals
                  go_wp2_with fail
                  go_meet
                  case rel => exact ⟨rfl, some ⟨ga, 0, none⟩, M4, c4, B4, cB4, cells5, R4, by omega, HS5.out⟩
          case rest =>
            obtain ⟨rfl, A5, M5, c5, B5, cB5, cells5, R5, hM5, hS5⟩ := hcut
            have b0 : wc.cell? ⟨g, 1, none⟩ = some (.slice B5 (L.take k).length cB5) := hS5.blk.cell 1
            rw [HTL.out] at b0
            have b1 : wc.cell? ⟨w.heap.size, 0, none⟩ = some (.int .i64 (y : Int)) := hS5.pp.cell 0
            have b2 : wc.cell? ⟨w.heap.size, 1, none⟩ = some (.int .i64 (y2 : Int)) := hS5.pp.cell 1
            have K6 := ((Keeps.refl (fun _ => False) wc).alloc (.cells #[.int .i64 (y : Int), .int .i64 (y2 : Int)] 101)).drew
            have hS6 := hS5.new0 K6
            have hpos : (wc.alloc (.cells #[.int .i64 (y : Int), .int .i64 (y2 : Int)] 101)).drew.ownsRow (w.heap.size + 1) 101 2 (.slice B5 k cB5) k (posCells 0 (L.take k)) := by have h := hS6.pos; rw [HTL.out] at h; exact h
            have hb6 := hS6.blk
            have hs6 : w.heap.size + 1 ≤ (World.heap (wc.alloc (.cells #[.int .i64 (y : Int), .int .i64 (y2 : Int)] 101)).drew).size := by have := hS5.keeps.size; simp; omega
            have hrd : Rd (wc.alloc (.cells #[.int .i64 (y : Int), .int .i64 (y2 : Int)] 101)).drew 2 (some ⟨wc.heap.size, 0, none⟩) 1 [.int .i64 (y : Int), .int .i64 (y2 : Int)] := by
              have hw := (Whole.new wc 101 #[.int .i64 (y : Int), .int .i64 (y2 : Int)]).drew
              exact ⟨rfl, fun _ => ⟨_, rfl, hw.lt, fun j u hu => by rw [add_lit', Nat.zero_add, hw.cell j, ← Array.getElem?_toList]; exact hu⟩⟩
            have HPOS := Lib.hid hpos
            have HS6 := Lib.hid hS6
            have HB6 := Lib.hid hb6
            have HSZ6 := Lib.hid hs6
            have HRD := Lib.hid hrd
            have hlw := hS5.blk.lt
            have hlp := hS5.pp.lt
            clear hpos hS6 hb6 hs6 hrd hS5 K6
            go_wp2_with fail
            go_region_law (first
              | (refine step_append_rd _ rfl (.tmp 155) (.tmp 157) _ rfl (w.heap.size + 1) 101 j0 _ 2 16 Try.underlying55 hj0 hj1 hj2 hj3 rfl (by omega) B5 cB5 k _ rfl HPOS.out (some ⟨wc.heap.size, 0, none⟩) 1 1 [.int .i64 (y : Int), .int .i64 (y2 : Int)] rfl HRD.out (by intro u hu; rcases List.mem_cons.1 hu with rfl | hu; rfl; rw [List.mem_singleton.1 hu]; rfl) (by simp only [maxLen]; omega) (by omega) HSZ6.out ?_
                 intro B7 k7 w7 o7 hg7 hat7
                 have hb7 := HB6.out.keeps ((Keeps.refl (fun i => ob B5 = some i) _).grown hg7 (fun k hk => .inl hk)) (fun e => by have := HS6.out.bl g e; have := HPRE.out.gl; omega)
                 have e71 : w7.cell? ⟨g, 1, none⟩ = some (.slice B5 (L.take k).length cB5) := hb7.cell 1
                 have f71 : w7.frozen? ⟨g, 1, none⟩ = false := hb7.frozen 1
                 have hl7 := hb7.lt
                 have HG7 := Lib.hid hg7
                 have HO7 := Lib.hid o7
                 clear hb7 hg7 o7))
            all_goals
              go_wp2_with fail
              go_roundg (n - (k + 1))
              case measure => omega
              case rel =>
                have ho := HO7.out
                have hfin := HS6.out.row (l := l) (B' := B7) (cB' := k7) HPRE.out (by rw [HTL.out]; exact ho) HG7.out HY.out.symm (by rw [HY.out, HM.out, HY2.out])
                rw [HTL.out, ← HTK.out, ← HFLAT.out] at hfin
                refine ⟨k + 1, by omega, rfl, by go_num, A5, M5, c5, B7, k7, y, cells5, R5, hM5, ?_⟩
                have hlen : (L.take (k + 1)).flatten.length = y2 := by rw [HFLAT.out, List.length_append, HY.out, HM.out, HY2.out]
                rw [hlen]
                exact hfin
      · obtain rfl : k = n := by omega
        have hall : L.take k = L := List.take_of_length_le (by rw [HLN.out]; exact Nat.le_refl _)
        rw [hall, List.drop_of_length_le (by rw [HLN.out]; exact Nat.le_refl _)] at hS
        have hcap := own_cap hS.buf
        simp only [maxLen] at hcap
        have hFM : L.flatten.length ≤ M := by
          have := hS.buf.1
          obtain ⟨rest, hrest⟩ := hS.got
          have h3 : (Lib.byteCells L.flatten).length ≤ cells.length := by rw [hrest, List.length_append]; omega
          rw [Lib.byteCells_length] at h3
          omega
        have b0 : wr.cell? ⟨g, 0, none⟩ = some (.slice A M c) := hS.blk.cell 0
        have b1 : wr.cell? ⟨w.heap.size, 1, none⟩ = some (.int .i64 (L.flatten.length : Int)) := hS.pp.cell 1
        have b2 : wr.frozen? ⟨g, 0, none⟩ = false := hS.blk.frozen 0
        have hlw := hS.blk.lt
        have HS := Lib.hid hS
        have HBL := Lib.hid (show base ≤ w.heap.size by have := HBLO.out; have := HPRE.out.gl; omega)
        obtain ⟨F, hF⟩ : ∃ F, L.flatten.length = F := ⟨_, rfl⟩
        rw [hF] at b1 hFM
        have HF := Lib.hid hF
        have hFc : F ≤ c := by omega
        clear hS hF
        go_wp2_with fail
        go_region
        go_wp2_with fail
        go_ret
        have K := ((Keeps.refl (fun i => i = g) wr).setCell (p := ⟨g, 0, none⟩) (.inl rfl) (.slice A F c)).drew
        have hS := HS.out
        have hp := HPRE.out
        have hcut := own_cut hS.buf hFM
        obtain ⟨rest, hrest⟩ := hS.got
        rw [Nat.mul_one, hrest, ← HF.out, ← Lib.byteCells_length, List.take_left, Lib.byteCells_length, HF.out] at hcut
        have hal := hS.al
        refine ⟨rfl, A, c, B, cB, R1, ⟨?_, ?_, ?_, HBLO.out⟩, RdrOn.keeps hS.rdr K (by have := hp.g1; omega) (by have := hp.g2; omega) (fun i hi e => hS.ra hp (e ▸ hi)) (fun i hi e => hp.d1 (e ▸ hi)), hS.new, hS.apart, hS.keeps.trans K (fun i _ e => .inl e)⟩
        · rw [HF.out]; exact (hS.blk.put 0 _).drew
        · rw [HF.out]; exact own_base_le (own_keeps hcut K (fun i hi e => by rw [ownBlock_slice] at hi; have := hal i hi; have := hp.gl; omega)) HBL.out
        · exact own_base_le (own_keeps hS.pos K (fun i hi e => by rw [ownBlock_slice] at hi; have := hS.bl i hi; have := hp.gl; omega)) (by have := HBL.out; omega)
end Go.Proofs.Ytpcjifhklofofaa
