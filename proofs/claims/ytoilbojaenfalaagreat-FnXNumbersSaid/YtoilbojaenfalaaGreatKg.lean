/- Rows of numbers compared: slices.Equal. Conditions: both read as the same rows. -/
import Derived.Test.YtoilbojaenfalaaGreatKf
import Derived.Laws.StructEq
import Derived.BigQuiet
namespace Go.Proofs.YtoilbojaenfalaaGreat
open Go.RowKit Go.Lib
set_option linter.unusedVariables false
theorem kU64cells : Tryz.prog.cellsOf 27 = 1 := by kernel_rfl
theorem rowEq (w : World) (a0 a1 a2 a3 : Int) : (Op.equalIn 10000 29 (.agg #[.int .u64 a0, .int .u64 a1, .int .u64 a2, .int .u64 a3]) (.agg #[.int .u64 a0, .int .u64 a1, .int .u64 a2, .int .u64 a3])).run Tryz.prog w = .ok true w := by
  obtain ⟨i0, hi0, hz0, hz1, hz2⟩ := info_parts kInfo10
  rw [run_equalIn_array w 9999 _ _ Tryz.underlying29 hi0, kU64cells]
  have e : ∀ (b : Int) (w : World), (Op.equalIn 9999 27 (.int .u64 b) (.int .u64 b)).run Tryz.prog w = .ok true w := fun b w => by
    rw [run_equalIn_int w 9998 27 .u64 .u64 b b Tryz.underlying27]; simp
  simp [Op.eqItems, show List.range 4 = [0, 1, 2, 3] from rfl, go_sem]
set_option maxRecDepth 100000 in
set_option maxHeartbeats 2000000 in
theorem rowsEqual (w : World) (U V : Option Addr) (n k1 k2 : Nat) (rs : List (Int × Int × Int × Int)) (h1 : RowsR w U n rs) (h2 : RowsR w V n rs) (hn : n ≤ 1000000) : Calls Tryz.prog 15 #[.slice U n k1, .slice V n k2] w fun e w' => e = .returned (.bool true) ∧ ∃ m, w' = w.drewN m := by
  have HU := Lib.hid h1
  have HV := Lib.hid h2
  clear h1 h2
  go_enter Tryz.func15, Tryz.ntmps15
  go_wp2_with fail
  go_loopw [13, 5] (fun i _ wr => ∃ (k m : Nat), k ≤ n ∧ i = .int .i64 k ∧ wr = w.drewN m) (fun i _ _ => n - (RowKit.intOf i).toNat)
  case atStart => exact ⟨0, 0, Nat.zero_le _, rfl, rfl⟩
  case round =>
    obtain ⟨k, m, hk, rfl, hm⟩ := hrel
    by_cases hlt : k < n
    · obtain ⟨r, hrk⟩ : ∃ r, rs[k]? = some r := ⟨_, List.getElem?_eq_getElem (by rw [HU.out.1]; exact hlt)⟩
      have hK : Keeps (fun _ => False) w wr := by rw [hm]; exact Keeps.drewN (Keeps.refl _ _) _
      obtain ⟨ad, rfl, hb, hc⟩ := (HU.out.keeps hK).at' hrk
      obtain ⟨ae, rfl, hb2, hc2⟩ := (HV.out.keeps hK).at' hrk
      obtain ⟨r1, r2, r3, r4⟩ := r
      have x0 : wr.cell? (ad.add (k * 4)) = some (.int .u64 r1) := hc 0 _ rfl
      have x1 : wr.cell? ⟨(ad.add (k * 4)).block, (ad.add (k * 4)).off + 1, none⟩ = some (.int .u64 r2) := hc 1 _ rfl
      have x2 : wr.cell? ⟨(ad.add (k * 4)).block, (ad.add (k * 4)).off + 2, none⟩ = some (.int .u64 r3) := hc 2 _ rfl
      have x3 : wr.cell? ⟨(ad.add (k * 4)).block, (ad.add (k * 4)).off + 3, none⟩ = some (.int .u64 r4) := hc 3 _ rfl
      have y0 : wr.cell? (ae.add (k * 4)) = some (.int .u64 r1) := hc2 0 _ rfl
      have y1 : wr.cell? ⟨(ae.add (k * 4)).block, (ae.add (k * 4)).off + 1, none⟩ = some (.int .u64 r2) := hc2 1 _ rfl
      have y2 : wr.cell? ⟨(ae.add (k * 4)).block, (ae.add (k * 4)).off + 2, none⟩ = some (.int .u64 r3) := hc2 2 _ rfl
      have y3 : wr.cell? ⟨(ae.add (k * 4)).block, (ae.add (k * 4)).off + 3, none⟩ = some (.int .u64 r4) := hc2 3 _ rfl
      have heq := fun w => rowEq w r1 r2 r3 r4
      have HM := Lib.hid hm
      clear hc hc2 hrk hK hm
      go_wp2_with fail
      go_quiet (fail)
      go_wp2_with fail
      go_roundw
      case rel => exact ⟨k + 1, m + nq, by omega, by go_num, by rw [HM.out, World.drewN_drewN]⟩
      case measure => (first | (simp [RowKit.intOf]; done) | (simp [RowKit.intOf]; omega))
    · go_wp2_with fail
      go_ret
      exact ⟨rfl, m, by first | exact hm | rfl⟩
end Go.Proofs.YtoilbojaenfalaaGreat
