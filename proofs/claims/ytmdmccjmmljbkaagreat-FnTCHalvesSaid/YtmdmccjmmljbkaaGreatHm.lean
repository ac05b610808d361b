/- The bytes of columns of 64 bits, of at most 30 rows each. Conditions: words fit. -/
import Derived.Test.YtmdmccjmmljbkaaGreatHl
import Derived.Test.YtmdmccjmmljbkaaGreatHp
namespace Go.Proofs.YtmdmccjmmljbkaaGreat
open Go.RowKit Go.Lib
set_option linter.unusedVariables false
theorem flatK_take {α : Type} {K : Nat} (f : α → List Value) (hf : ∀ a, (f a).length = K) (rs : List α) (j : Nat) : ((rs.take j).map f).flatten = ((rs.map f).flatten).take (j * K) := by
  induction rs generalizing j with
  | nil => simp
  | cons x t ih =>
    rcases j with _ | j
    · simp
    · rw [List.take_succ_cons, List.map_cons, List.flatten_cons, List.map_cons, List.flatten_cons, ih, List.take_append, hf, Nat.succ_mul, List.take_of_length_le (l := f x) (by rw [hf]; omega), Nat.add_sub_cancel]
theorem flatK_drop {α : Type} {K : Nat} (f : α → List Value) (hf : ∀ a, (f a).length = K) (rs : List α) (j : Nat) : ((rs.drop j).map f).flatten = ((rs.map f).flatten).drop (j * K) := by
  induction rs generalizing j with
  | nil => simp
  | cons x t ih =>
    rcases j with _ | j
    · simp
    · rw [List.drop_succ_cons, List.map_cons, List.flatten_cons, ih, List.drop_append, hf, Nat.succ_mul, List.drop_of_length_le (l := f x) (by rw [hf]; omega), Nat.add_sub_cancel, List.nil_append]
theorem RowsW.first {w : World} {U : Option Addr} {m j : Nat} {rs : List W4} (h : RowsW w U m rs) (hj : j ≤ m) : RowsW w U j (rs.take j) := by
  refine ⟨by rw [List.length_take, h.1, Nat.min_eq_left hj], ?_⟩
  rw [flatK_take wc4 wc4_len]
  refine ⟨by rw [List.length_take, flatK_len wc4 wc4_len, h.1]; exact Nat.min_eq_left (Nat.mul_le_mul_right _ hj), fun hn => ?_⟩
  obtain ⟨ad, e, hb, hc⟩ := h.2.2 (by omega)
  exact ⟨ad, e, hb, fun i u hu => hc i u (by
    have hi := (List.getElem?_eq_some_iff.1 hu).1
    rw [List.length_take] at hi
    rwa [List.getElem?_take_of_lt (by omega)] at hu)⟩
theorem RowsW.rest {w : World} {ad : Addr} {m j : Nat} {rs : List W4} (h : RowsW w (some ad) m rs) (hj : j ≤ m) : RowsW w (some (ad.add (j * 4))) (m - j) (rs.drop j) := by
  refine ⟨by rw [List.length_drop, h.1], ?_⟩
  rw [flatK_drop wc4 wc4_len]
  refine ⟨by rw [List.length_drop, flatK_len wc4 wc4_len, h.1]; omega, fun hn => ?_⟩
  obtain ⟨ad', e, hb, hc⟩ := h.2.2 (by omega)
  injection e with e
  subst e
  exact ⟨_, rfl, by rw [blk_add]; exact hb, fun i u hu => by
    rw [add_add']
    rw [List.getElem?_drop] at hu
    exact hc _ u hu⟩
theorem RowsW.restM {w : World} {U : Option Addr} {m j cv : Nat} {rs : List W4} (h : RowsW w U m rs) (hj : j ≤ m) (hc : m ≤ cv) : RowsW w (if cv = j then U else U.map fun x => x.add (j * 4)) (m - j) (rs.drop j) := by
  by_cases he : m - j = 0
  · rw [he, List.drop_of_length_le (by rw [h.1]; omega)]
    exact ⟨rfl, by simp, fun h => absurd h (by omega)⟩
  · rw [if_neg (by omega)]
    obtain ⟨ad, rfl, _⟩ := h.2.2 (by omega)
    exact h.rest hj
theorem RowsW.zero {w : World} {U : Option Addr} : RowsW w U 0 [] := ⟨rfl, by simp, fun h => absurd h (by omega)⟩
/-- Rows of one word each. -/
def ones (xs : List Nat) : List W4 := xs.map fun x => (x, 0, 0, 0)
theorem tb9_ones (xs : List Nat) : tb9 ((ones xs).map tcut9) = u64s xs := by
  rw [tb9, ones, List.map_map, List.map_map]
  congr 1
  induction xs with
  | nil => rfl
  | cons x r ih => rw [List.map_cons, ih]; rfl
set_option maxRecDepth 100000 in
set_option maxHeartbeats 2000000 in
theorem tcEight (w : World) (U : Option Addr) (m k0 : Nat) (xs : List Nat) (hU : RowsW w U m (ones xs)) (hx : ∀ x ∈ xs, x < 18446744073709551616) (hm : m ≤ 1000) (hk0 : m ≤ k0) : Calls Tryz.prog 6 #[.slice U m k0] w fun e w' => EncRes w (u64s xs) e w' := by
  have HU := Lib.hid hU
  have HX := Lib.hid hx
  clear hU hx
  go_enter Tryz.func6, Tryz.ntmps6
  go_wp2_with fail
  go_loopw [0, 3] (fun v o wr => ∃ (V : Option Addr) (r cv : Nat) (A : Option Addr) (c : Nat) (ys zs : List Nat), v = .slice V r cv ∧ o = .slice A (u64s ys).length c ∧ Hid (r ≤ m ∧ r ≤ cv ∧ ys.length + r = m) ∧ Hid (ys ++ zs = xs) ∧ Hid (RowsW w V r (ones zs)) ∧ Hid (wr.ownsRow w.heap.size 5 1 (.slice A (u64s ys).length c) (u64s ys).length (Lib.byteCells (u64s ys))) ∧ Hid (Keeps (fun _ => False) w wr)) (fun v _ _ => match v with | .slice _ r _ => r | _ => 0)
  case atStart => exact ⟨U, m, k0, none, 0, [], xs, rfl, rfl, Lib.hid ⟨Nat.le_refl _, hk0, by simp⟩, Lib.hid rfl, HU, Lib.hid (World.ownsRow_nil _ _ _ _), Lib.hid (Keeps.refl _ _)⟩
  case round =>
    obtain ⟨V, r, cv, A, c, ys, zs, rfl, rfl, HN, HY, HV, HO, HK⟩ := hrel
    have hrN := HN.out
    obtain ⟨hrm, hrc, hyr⟩ := hrN
    have HYR := Lib.hid hyr
    clear hyr
    by_cases h0 : r = 0
    · subst h0
      have hz : zs = [] := by
        have := HV.out.1
        rw [ones, List.length_map] at this
        exact List.eq_nil_of_length_eq_zero this
      have HYX := Lib.hid (show ys = xs by have := HY.out; rw [hz, List.append_nil] at this; exact this)
      clear hz
      go_wp2_with fail
      go_ret
      exact ⟨A, c, by rw [HYX.out]; rfl, by rw [← HYX.out]; exact HO.out, HK.out⟩
    have hr0 : (0 : Int) < (r : Int) := by omega
    by_cases h30 : (r : Int) ≤ 30
    · have h30n : r ≤ 30 := by omega
      have hnr : r ≤ r := by omega
      have hn30 : r ≤ 30 := by omega
      have hzl : zs.length = r := by have := HV.out.1; rw [ones, List.length_map] at this; exact this
      have HRM := Lib.hid (HV.out.restM hnr hrc)
      have HYZ := Lib.hid (show (ys ++ zs.take r) ++ zs.drop r = xs by rw [List.append_assoc, List.take_append_drop]; exact HY.out)
      have HDR := Lib.hid (show (ones zs).drop r = ones (zs.drop r) by rw [ones, ones, List.map_drop])
      have HF := Lib.hid (tcCol9 wr V r cv _ ((HV.out.keeps HK.out).first hnr) hn30)
      obtain ⟨i0, hi0, hz0, hz1, hz2⟩ := info_parts infoU8
      have HTE := Lib.hid (fun w1 RA cm (hR : RowsV w1 RA (((ones (zs.take r)).map tcut9).map qw)) => tce9 w1 (.int .i64 (-1)) (.int .u8 0) RA r cm ((ones (zs.take r)).map tcut9) (by rw [List.length_map, ones, List.length_map, List.length_take]; omega) hR (by omega) (fun X hX x hx => by
        obtain ⟨q, hq, rfl⟩ := List.mem_map.1 hX
        obtain ⟨y, hy, rfl⟩ := List.mem_map.1 hq
        rw [List.mem_singleton.1 hx]
        exact HX.out y (by rw [← HY.out]; exact List.mem_append_right _ (List.mem_of_mem_take hy))))
      have HTB := Lib.hid (tb9_ones (zs.take r))
      have HTK := Lib.hid (show (ones zs).take r = ones (zs.take r) by rw [ones, ones, List.map_take])
      have HZL := Lib.hid hzl
      have HAP := Lib.hid (u64s_app ys (zs.take r))
      have hyl : (u64s ys).length ≤ 8000 := by rw [u64s_length]; have := HYR.out; omega
      have hzz : (u64s (zs.take r)).length ≤ 8000 := by rw [u64s_length, List.length_take]; omega
      have hbase := HK.out.size
      clear hzl
      generalize hd1 : u64s ys = d1 at *
      generalize hd2 : u64s (zs.take r) = d2 at *
      have HD1 := Lib.hid hd1
      clear hd1 hd2
      go_wp2_with fail
      refine HF.out.mono ?_
      rintro e w1 ⟨RA, cm, rfl, hV1, K1⟩
      rw [HTK.out] at hV1
      have HT1 := Lib.hid (HTE.out w1 RA cm hV1)
      have HK1 := Lib.hid K1
      clear hV1 K1
      go_wp2_with fail
      refine HT1.out.mono ?_
      rintro e w2 ⟨A2, c2, rfl, o2, K2⟩
      rw [HTB.out] at o2 ⊢
      have ho2 := own_keeps (own_keeps HO.out HK1.out (fun _ _ h => h)) K2 (fun _ _ h => h)
      have hrd2 := Rd.own o2
      have K12 := HK1.out.trans K2 (fun _ _ h => h)
      have hb2 : w.heap.size ≤ w2.heap.size := Nat.le_trans hbase K12.size
      have HK2 := Lib.hid (HK.out.trans K12 (fun _ _ h => h))
      clear o2 K2 K12
      go_wp2_with (
        at_builtin
        refine wpList_append_rd _ rfl (.tmp 11) (.tmp 16) _ rfl w.heap.size 5 i0 _ 1 1 Tryz.underlying25 hi0 hz0 hz1 hz2 rfl Nat.one_pos A c d1.length _ rfl ho2 A2 d2.length c2 _ rfl hrd2 (byteCells_one _) (by simp only [maxLen]; omega) (by omega) hb2 ?_
        intro A3 c3 w3 hown3 hg3 hat3
        rw [← Lib.byteCells_append, ← HAP.out] at hown3
        have HO3 := Lib.hid hown3
        have HK3 := Lib.hid (HK2.out.grown hg3 (fun i hi => .inr (ho2.lt i (by rw [ownBlock_slice]; exact hi)).1))
        clear hown3 hg3 hat3)
      go_roundw
      case rel => exact ⟨_, 0, cv - r, A3, c3, ys ++ zs.take r, zs.drop r, rfl, by rw [HAP.out, List.length_append], Lib.hid ⟨by omega, by omega, by have := HYR.out; rw [List.length_append, List.length_take, HZL.out, Nat.min_eq_left hnr]; omega⟩, HYZ, Lib.hid (by rw [← HDR.out]; have h := HRM.out; rw [Nat.sub_self] at h; exact h), Lib.hid (by rw [HAP.out, List.length_append, ← HAP.out]; exact HO3.out), HK3⟩
      case measure => (first | (simp; done) | (simp; omega))
    · have h30n : 30 < r := by omega
      have hnr : 30 ≤ r := by omega
      have hn30 : 30 ≤ 30 := by omega
      have hzl : zs.length = r := by have := HV.out.1; rw [ones, List.length_map] at this; exact this
      have HRM := Lib.hid (HV.out.restM hnr hrc)
      have HYZ := Lib.hid (show (ys ++ zs.take 30) ++ zs.drop 30 = xs by rw [List.append_assoc, List.take_append_drop]; exact HY.out)
      have HDR := Lib.hid (show (ones zs).drop 30 = ones (zs.drop 30) by rw [ones, ones, List.map_drop])
      have HF := Lib.hid (tcCol9 wr V 30 cv _ ((HV.out.keeps HK.out).first hnr) hn30)
      obtain ⟨i0, hi0, hz0, hz1, hz2⟩ := info_parts infoU8
      have HTE := Lib.hid (fun w1 RA cm (hR : RowsV w1 RA (((ones (zs.take 30)).map tcut9).map qw)) => tce9 w1 (.int .i64 (-1)) (.int .u8 0) RA 30 cm ((ones (zs.take 30)).map tcut9) (by rw [List.length_map, ones, List.length_map, List.length_take]; omega) hR (by omega) (fun X hX x hx => by
        obtain ⟨q, hq, rfl⟩ := List.mem_map.1 hX
        obtain ⟨y, hy, rfl⟩ := List.mem_map.1 hq
        rw [List.mem_singleton.1 hx]
        exact HX.out y (by rw [← HY.out]; exact List.mem_append_right _ (List.mem_of_mem_take hy))))
      have HTB := Lib.hid (tb9_ones (zs.take 30))
      have HTK := Lib.hid (show (ones zs).take 30 = ones (zs.take 30) by rw [ones, ones, List.map_take])
      have HZL := Lib.hid hzl
      have HAP := Lib.hid (u64s_app ys (zs.take 30))
      have hyl : (u64s ys).length ≤ 8000 := by rw [u64s_length]; have := HYR.out; omega
      have hzz : (u64s (zs.take 30)).length ≤ 8000 := by rw [u64s_length, List.length_take]; omega
      have hbase := HK.out.size
      clear hzl
      generalize hd1 : u64s ys = d1 at *
      generalize hd2 : u64s (zs.take 30) = d2 at *
      have HD1 := Lib.hid hd1
      clear hd1 hd2
      go_wp2_with fail
      refine HF.out.mono ?_
      rintro e w1 ⟨RA, cm, rfl, hV1, K1⟩
      rw [HTK.out] at hV1
      have HT1 := Lib.hid (HTE.out w1 RA cm hV1)
      have HK1 := Lib.hid K1
      clear hV1 K1
      go_wp2_with fail
      refine HT1.out.mono ?_
      rintro e w2 ⟨A2, c2, rfl, o2, K2⟩
      rw [HTB.out] at o2 ⊢
      have ho2 := own_keeps (own_keeps HO.out HK1.out (fun _ _ h => h)) K2 (fun _ _ h => h)
      have hrd2 := Rd.own o2
      have K12 := HK1.out.trans K2 (fun _ _ h => h)
      have hb2 : w.heap.size ≤ w2.heap.size := Nat.le_trans hbase K12.size
      have HK2 := Lib.hid (HK.out.trans K12 (fun _ _ h => h))
      clear o2 K2 K12
      go_wp2_with (
        at_builtin
        refine wpList_append_rd _ rfl (.tmp 11) (.tmp 16) _ rfl w.heap.size 5 i0 _ 1 1 Tryz.underlying25 hi0 hz0 hz1 hz2 rfl Nat.one_pos A c d1.length _ rfl ho2 A2 d2.length c2 _ rfl hrd2 (byteCells_one _) (by simp only [maxLen]; omega) (by omega) hb2 ?_
        intro A3 c3 w3 hown3 hg3 hat3
        rw [← Lib.byteCells_append, ← HAP.out] at hown3
        have HO3 := Lib.hid hown3
        have HK3 := Lib.hid (HK2.out.grown hg3 (fun i hi => .inr (ho2.lt i (by rw [ownBlock_slice]; exact hi)).1))
        clear hown3 hg3 hat3)
      go_roundw
      case rel => exact ⟨_, r - 30, cv - 30, A3, c3, ys ++ zs.take 30, zs.drop 30, by go_num, by rw [HAP.out, List.length_append], Lib.hid ⟨by omega, by omega, by have := HYR.out; rw [List.length_append, List.length_take, HZL.out, Nat.min_eq_left hnr]; omega⟩, HYZ, Lib.hid (by rw [← HDR.out]; have h := HRM.out; rw [if_neg (show ¬ cv = 30 by omega)] at h; exact h), Lib.hid (by rw [HAP.out, List.length_append, ← HAP.out]; exact HO3.out), HK3⟩
      case measure => (first | (simp; done) | (simp; omega))
end Go.Proofs.YtmdmccjmmljbkaaGreat
