/- A column of numbers of 16 bits decoded from a reader. Conditions: the bytes are there; sizes far below the machine's. -/
import Derived.Test.YtoilbojaenfalaaGreatD64
import Derived.Test.YtoilbojaenfalaaGreatKa
import Derived.Test.YtoilbojaenfalaaGreatU16
import Derived.Deep.RegionLaw
import Derived.Deep.RegionWith
namespace Go.Proofs.YtoilbojaenfalaaGreat
open Go.RowKit Go.Lib
set_option linter.unusedVariables false
theorem byteInfo4 : True := trivial
set_option maxRecDepth 100000 in
set_option maxHeartbeats 4000000 in
theorem decU16 (w : World) (base rb bb g : Nat) (D R : Option Nat) (n : Nat) (xs : List Nat) (d : List UInt8) (hl : xs.length = n) (h0 : 0 < n) (hn : n ≤ 100000) (hx : ∀ x ∈ xs, x < 256 ^ 2) (hR : RdrOn w base rb bb D R (u16s xs ++ d))
    (hc : w.cell? ⟨g, 0, none⟩ = some (.slice none 0 0)) (hf : w.frozen? ⟨g, 0, none⟩ = false) (hg : ¬ (g = rb ∨ g = bb ∨ R = some g)) (hgl : g < w.heap.size) :
    Calls Tryz.prog 209 #[.pointer (some ⟨g, 0, none⟩), .pointer (some ⟨rb, 0, none⟩), .int .i64 (n : Int)] w fun e w' => DecRes w base rb bb g D R 70 (xs.map fun x : Nat => .int .u16 (x : Int)) d e w' := by
  obtain ⟨i0, hi0, hz0, hz1, hz2⟩ := info_parts kInfo8
  obtain ⟨M, hM⟩ : ∃ M, M = 2 * n := ⟨_, rfl⟩
  have hul : (u16s xs).length = M := by rw [u16s_length, hl, hM]
  have HRAW := Lib.hid (readRaw_ok w base rb bb D R (u16s xs) d M hul hR (by omega))
  have w1 : IntKind.i64.wrap ((n : Int) * 2) = (M : Int) := by rw [IntKind.wrap_i64]; omega
  have w2 : IntKind.i64.wrap ((M : Int) - 2) = (M : Int) - 2 := by rw [IntKind.wrap_i64]; omega
  have n0 : ¬ ((n : Int) = 0) := by omega
  have n1 : ¬ (n = 0) := by omega
  have m1 : (0 : Int) ≤ (M : Int) - 2 := by omega
  have m2 : (M : Int) - 2 < (M : Int) := by omega
  have m3 : ((M : Int) - 2).toNat = M - 2 := by omega
  have HX := Lib.hid hx
  have HL := Lib.hid hl
  have HMN := Lib.hid hM
  have HG := Lib.hid hg
  have HUL := Lib.hid hul
  have hmn : M ≤ 1000000 := by omega
  have hm0 : 2 ≤ M := by omega
  have HC := Lib.hid hc
  have HF := Lib.hid hf
  clear hx hl hM hul hg hR hf
  go_enter Tryz.func209, Tryz.ntmps209
  go_wp2_with fail
  refine HRAW.out.mono ?_
  rintro e wa ⟨DA, dc, rfl, hO, hGo⟩
  obtain ⟨dg, cap, hv, hdl, hdh⟩ := hO.form (by omega)
  injection hv with hv1 hv2 hv3
  subst hv1 hv3
  have hcm : M ≤ dc ∧ dc ≤ 9223372036854775807 := by
    obtain ⟨_, _, _, _, _, h1, h2, _, _⟩ := own_whole hO (by omega)
    exact ⟨h1, h2⟩
  obtain ⟨hcap, hmax⟩ := hcm
  have hca := (hGo.keeps.cell (p := ⟨g, 0, none⟩) hgl HG.out).trans HC.out
  have hfa := (hGo.keeps.frozen (p := ⟨g, 0, none⟩) hgl HG.out).trans HF.out
  have hga := Nat.lt_of_lt_of_le hgl hGo.keeps.size
  obtain ⟨bl, hbl⟩ : ∃ b : UInt8, (Lib.byteCells (u16s xs))[M - 2]? = some (.int .u8 b.toNat) := ⟨(u16s xs)[M - 2]'(by rw [HUL.out]; omega), by rw [Lib.byteCells, List.getElem?_map, List.getElem?_eq_getElem (by rw [HUL.out]; omega)]; rfl⟩
  have hlast : wa.cell? ⟨dg, M - 2, none⟩ = some (.int .u8 bl.toNat) := by rw [hO.cellAt (M - 2) (by omega)]; exact hbl
  have HO := Lib.hid hO
  have HGO := Lib.hid hGo
  have HS : Hid (w.heap.size ≤ wa.heap.size) := Lib.hid hGo.keeps.size
  clear hO hGo hv2 hbl hc
  go_wp2_with fail
  go_loopw [9, 10] (fun v i wr => ∃ (k p : Nat) (A : Option Addr) (c : Nat), k ≤ n ∧ p = 2 * k ∧ i = .int .i64 p ∧ v = .slice A k c ∧ wr.ownsRow wa.heap.size 70 1 (.slice A k c) k ((xs.take k).map fun x : Nat => .int .u16 (x : Int)) ∧ Keeps (fun _ => False) wa wr) (fun _ i _ => M - (RowKit.intOf i).toNat)
  case atStart => exact ⟨0, 0, none, 0, Nat.zero_le _, rfl, rfl, rfl, ⟨by simp, .inl ⟨rfl, by simp⟩⟩, Keeps.refl _ _⟩
  case round =>
    obtain ⟨k, p, A, c, hk, hp, rfl, rfl, hV, hKr⟩ := hrel
    have HV := Lib.hid hV
    have HKr := Lib.hid hKr
    clear hV hKr
    by_cases hlt : k < n
    · obtain ⟨x, hxk⟩ : ∃ x, xs[k]? = some x := ⟨_, List.getElem?_eq_getElem (by rw [HL.out]; exact hlt)⟩
      have hxb := HX.out x (List.mem_of_getElem? hxk)
      obtain ⟨b0, b1, hb⟩ : ∃ b0 b1 : UInt8, leb 2 x = [b0, b1] := ⟨_, _, rfl⟩
      have hln : Lib.leNat [b0, b1] = x := by rw [← hb]; exact leNat_leb 2 x hxb
      have HLN := Lib.hid hln
      have HT := Lib.hid (show (xs.take (k + 1)).map (fun x : Nat => Value.int .u16 (x : Int)) = (xs.take k).map (fun x : Nat => Value.int .u16 (x : Int)) ++ [.int .u16 (x : Int)] by rw [List.take_add_one, hxk]; simp)
      have hq : ∀ (i : Nat) (b : UInt8), i < 2 → [b0, b1][i]? = some b → wr.drew.cell? ⟨dg, p + i, none⟩ = some (.int .u8 b.toNat) := by
        intro i b hi hbi
        have h1 : (u16s xs)[2 * k + i]? = some b := by rw [← hbi, ← hb]; exact leWs_at 2 xs k i x hxk hi
        have h2 : wr.drew.cell? ⟨dg, p + i, none⟩ = wa.cell? ⟨dg, p + i, none⟩ := HKr.out.drew.cell (p := ⟨dg, p + i, none⟩) hdh (fun h => h)
        have hlen := HUL.out
        have hlt2 : 2 * k + i < (u16s xs).length := (List.getElem?_eq_some_iff.1 h1).1
        rw [h2, HO.out.cellAt (p + i) (by omega), hp, Lib.byteCells, List.getElem?_map, h1]
        rfl
      have HQ := Lib.hid hq
      clear hq hb hxb hxk hln
      have f1 : (p : Int) + 2 ≤ (dc : Int) := by have := HMN.out; omega
      have f0 : IntKind.i64.wrap ((p : Int) + 2) = (p : Int) + 2 := by have := HMN.out; rw [IntKind.wrap_i64]; omega
      have f2 : (p : Int) ≤ (p : Int) + 2 := by omega
      have f3 : ¬ (dc = p) := by have := HMN.out; omega
      have f4 : ((p : Int) + 2).toNat = p + 2 := by omega
      have f5 : (0 : Int) ≤ (p : Int) + 2 := by omega
      have f6 : (p : Int) ≤ (M : Int) - 2 := by have := HMN.out; omega
      have hkm : k ≤ 100000 := by omega
      have hpm : M - (p + 2) < M - p := by have := HMN.out; omega
      have hb0 : wa.heap.size ≤ wr.heap.size := HKr.out.size
      have HP := Lib.hid hp
      have HVD := Lib.hid (own_keeps HV.out (Keeps.refl (fun _ => False) wr).drew (fun _ _ h => h))
      clear hp
      go_wp2_with fail
      go_region_law (first
        | (refine step_append_rd _ rfl (.tmp 40) (.tmp 48) _ rfl wa.heap.size 70 i0 _ 1 2 Tryz.underlying129 hi0 hz0 hz1 hz2 rfl Nat.one_pos A c k _ rfl ho2a (some ⟨w2.heap.size, 0, none⟩) 1 1 [.int .u16 (x : Int)] rfl (rd_one w2 70 _) (one_val _ rfl) (by simp only [maxLen]; omega) (by omega) hba ?_
           intro A3 c3 w3 o3 hg3 hat3)
        | (go_simp
           go_at_call 136
           refine (leGet16 wr.drew dg p 2 (dc - p) b0 b1 (by omega) (HQ.out 0 b0 (by decide) rfl) (HQ.out 1 b1 (by decide) rfl)).mono ?_
           rw [HLN.out]
           rintro e w2 ⟨rfl, K2⟩
           have ho2 := own_keeps HVD.out K2 (fun _ _ h => h)
           have K2a := (Keeps.refl (fun _ => False) w2).alloc (.cells #[.int .u16 (x : Int)] 70)
           have ho2a := own_keeps ho2 K2a (fun _ _ h => h)
           have hba : wa.heap.size ≤ (World.heap (w2.alloc (.cells #[.int .u16 (x : Int)] 70))).size := by have h2 := K2.size; have h3 := K2a.size; simp at h2; omega))
      all_goals
        have HK3 := Lib.hid ((((HKr.out.drew).trans K2 (fun _ _ h => h)).trans K2a (fun _ _ h => h)).trans (S' := fun i => ob A = some i) ((Keeps.refl _ _).grown hg3 (fun k hk => .inl hk)) (fun i hi h => by have h1 := (HV.out.lt i (by rw [ownBlock_slice]; exact h)).1; omega))
        go_wp2_with fail
        go_roundw
        case rel => exact ⟨k + 1, p + 2, A3, c3, by omega, by have := HP.out; omega, by go_num, by go_num, by rw [HT.out]; exact o3, HK3.out⟩
        case measure => (first | (simp [RowKit.intOf]; done) | (simp [RowKit.intOf]; omega))
    · have hkn : k = n := by omega
      subst hkn
      have f6 : ¬ ((p : Int) ≤ (M : Int) - 2) := by have := HMN.out; omega
      have hcr := (HKr.out.cell (p := ⟨g, 0, none⟩) hga (fun h => h)).trans hca
      have hfr := (HKr.out.frozen (p := ⟨g, 0, none⟩) hga (fun h => h)).trans hfa
      have hgr := Nat.lt_of_lt_of_le hga HKr.out.size
      clear hp
      go_wp2_with fail
      go_ret
      have hv := HV.out
      rw [List.take_of_length_le (by rw [HL.out]; exact Nat.le_refl _)] at hv
      refine ⟨A, c, wr, rfl, by rw [List.length_map, HL.out], by rw [List.length_map, HL.out]; exact own_base_le hv HS.out, HGO.out.after HKr.out⟩
end Go.Proofs.YtoilbojaenfalaaGreat
