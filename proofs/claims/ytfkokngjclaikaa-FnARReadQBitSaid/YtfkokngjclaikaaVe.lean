/- spec.ARQBits: the bytes of vectors, plane by plane. Conditions: at most 100 vectors of at most 100 finite numbers, all of one length. -/
import Derived.Test.YtfkokngjclaikaaVd
import Derived.Test.YtfkokngjclaikaaDs
import Derived.Test.YtfkokngjclaikaaVc
namespace Go.Proofs.Ytfkokngjclaikaa
open Go.RowKit Go.Lib
set_option linter.unusedVariables false
theorem wrapMul {a b c : Nat} (h : a * b = c) (hc : c ≤ 1000000000) : IntKind.i64.wrap ((a : Int) * (b : Int)) = (c : Int) := by
  rw [← h, IntKind.wrap_i64]
  have : ((a : Int) * (b : Int)) = ((a * b : Nat) : Int) := by simp
  rw [this]
  omega
theorem made_zero (T : Nat) : madeCells (Value.int .u8 0).cells (T * 1) = fcells T (fun _ => 0) := by
  apply Array.ext_getElem?
  intro i
  rw [Nat.mul_one]
  by_cases h : i < T
  · rw [fcells_get h]
    simp [madeCells, Value.cells, h, Nat.mod_one]
  · rw [Array.getElem?_eq_none (by rw [size_madeCells]; omega), Array.getElem?_eq_none (by rw [fcells_size]; omega)]
theorem eW_le (e : Nat) : 0 < eW e ∧ eW e ≤ 64 := by unfold eW; split <;> (try split) <;> omega
set_option maxRecDepth 100000 in
set_option maxHeartbeats 8000000 in
theorem arQBits (e : Nat) (he : e < 3) (n nb : Nat) (hn0 : 0 < n) (hn : n ≤ 100) (hnb : nb = (n + 7) / 8) (w : World) (A : Option Addr) (m c : Nat) (LL : List (List Nat)) (hl : LL.length = m) (hR : NumsOf w A LL) (hm0 : 0 < m) (hm : m ≤ 100) (hX : ∀ X ∈ LL, X.length = n ∧ ∀ x ∈ X, Fin32 x) :
    Calls Try.prog 9 #[.string (eName e), .int .i64 (n : Int), .slice A m c] w fun e' w' => ∃ g, e' = .returned (.slice (some ⟨g, 0, none⟩) (eW e * m * nb) (eW e * m * nb)) ∧ w.heap.size ≤ g ∧ Whole w' g 5 (fcells (eW e * m * nb) (pfin (eW e) m nb n (fun r => (LL.getD r []).map (eBits e)))) ∧ Keeps (fun _ => False) w w' := by
  obtain ⟨u0, hu0, hv0, hv1, hv2⟩ := info_parts infoByteB
  have HP0 := Lib.hid (arPlanes e he w none 0 0 [] rfl Rd.none' (by omega) (fun x h => by cases h))
  have HPL := Lib.hid (fun (W : World) B d X (hx : X ∈ LL) (hr : Rd W 1 B n (nv X)) => arPlanes e he W B n d X (hX X hx).1 hr (by omega) (hX X hx).2)
  have HBL := Lib.hid (fun X (hx : X ∈ LL) x (hxx : x ∈ X) => eBits_lt he ((hX X hx).2 x hxx))
  have HXL := Lib.hid (fun X (hx : X ∈ LL) => (hX X hx).1)
  obtain ⟨hW0, hW64⟩ := eW_le e
  have HQ : Hid (∀ r X, LL[r]? = some X → (fun r => (LL.getD r []).map (eBits e)) r = X.map (eBits e)) := Lib.hid (fun r X h => by simp [h])
  generalize (fun r => (LL.getD r []).map (eBits e)) = q at *
  generalize eName e = nm at *
  generalize eW e = W at *
  obtain ⟨WM, hWM⟩ : ∃ WM, W * m = WM := ⟨_, rfl⟩
  obtain ⟨T, hT⟩ : ∃ T, WM * nb = T := ⟨_, rfl⟩
  have hnb0 : 0 < nb := by omega
  have hnb13 : nb ≤ 13 := by omega
  have hWM1 : WM ≤ 6400 := by rw [← hWM]; exact Nat.le_trans (Nat.mul_le_mul hW64 hm) (by omega)
  have hT1 : T ≤ 83200 := by rw [← hT]; exact Nat.le_trans (Nat.mul_le_mul hWM1 hnb13) (by omega)
  have f1 := wrapMul hWM (by omega)
  have f2 := wrapMul hT (by omega)
  have hq : ((n : Int) + 7) / 8 = (nb : Int) := by omega
  have HNB := Lib.hid hnb
  have hmk : ∀ w0 : World, (Instr.makeSlice 23 (.int .i64 (T : Int)) (.int .i64 (T : Int))).run Try.prog w0 = .ok (.slice (some ⟨w0.heap.size, 0, none⟩) T T) (w0.alloc (.cells (fcells T (fun _ => 0)) 5)) := fun w0 => by
    have h := run_make (P := Try.prog) w0 23 5 u0 (.int .u8 0) Try.underlying23 hu0 hv0 .i64 .i64 (T : Int) (T : Int) (by omega) (Int.le_refl _) (by rw [hv2]; omega) (by omega)
    rw [hv1, Int.toNat_natCast, made_zero] at h
    exact h
  rw [hWM, hT]
  have HL := Lib.hid hl
  have HR := Lib.hid hR
  have HWT := Lib.hid (And.intro hWM hT)
  have HBD := Lib.hid (And.intro hWM1 hT1)
  clear hl hR hX hnb hWM hT hWM1
  go_enter Try.func9, Try.ntmps9
  go_wp2_with fail
  refine HP0.out.mono ?_
  rintro e' w1 ⟨B0, c0, rfl, _, K1⟩
  rw [hq]
  have HWH := Lib.hid (Whole.new w1 5 (fcells T (fun _ => 0)))
  have HK1 := Lib.hid (K1.alloc (.cells (fcells T (fun _ => 0)) 5))
  have HG := Lib.hid K1.size
  clear K1
  go_wp2_with fail
  generalize w1.heap.size = g at *
  generalize w1.alloc (.cells (fcells T (fun _ => 0)) 5) = w2 at *
  go_loopw [11] (fun s11 wr => ∃ r : Nat, r ≤ m ∧ s11 = .int .i64 r ∧ Hid (Whole wr g 5 (fcells T (pst W m nb n q r 0 0))) ∧ Hid (Keeps (fun _ => False) w wr)) (fun s11 _ => m - (RowKit.intOf s11).toNat)
  case atStart => exact ⟨0, Nat.zero_le _, rfl, Lib.hid (by rw [fcells_congr (g := fun _ => 0) (fun i _ => pst_start i)]; exact HWH.out), HK1⟩
  case round =>
    obtain ⟨r, hr, rfl, HB, HK⟩ := hrel
    by_cases hlt : r < m
    · obtain ⟨X, hXr⟩ : ∃ X, LL[r]? = some X := ⟨_, List.getElem?_eq_getElem (by rw [HL.out]; exact hlt)⟩
      have hXm := List.mem_of_getElem? hXr
      obtain ⟨ad, B, d, rfl, hb, hcell, hRd⟩ := (HR.out.keeps HK.out).at' hXr
      rw [HXL.out X hXm] at hcell hRd
      have HPX := Lib.hid (HPL.out wr B d X hXm hRd)
      have HQX := Lib.hid (HQ.out r X hXr)
      have HXL2 := Lib.hid (HXL.out X hXm)
      have HBX := Lib.hid (HBL.out X hXm)
      clear hXr hXm hRd
      go_wp2_with fail
      refine HPX.out.mono ?_
      rintro e' w3 ⟨V, cV, rfl, hoV, K3⟩
      have HV := Lib.hid (Rd.own hoV)
      have HB3 := Lib.hid (HB.out.keeps K3 (fun h => h))
      have HK3 := Lib.hid (HK.out.trans K3 (fun _ _ h => h))
      have hVg : ob V ≠ some g := fun h => by
        have h1 := (hoV.lt g (by rw [ownBlock_slice]; exact h)).1
        have h2 := HB.out.lt
        omega
      have HVG := Lib.hid hVg
      clear hoV K3 hVg
      go_wp2_with fail
      go_loopw [14] (fun s14 wp => ∃ p : Nat, p ≤ W ∧ s14 = .int .i64 p ∧ Hid (Whole wp g 5 (fcells T (pst W m nb n q r p 0))) ∧ Hid (Keeps (fun i => i = g) w3 wp)) (fun s14 _ => W - (RowKit.intOf s14).toNat)
      case atStart => exact ⟨0, Nat.zero_le _, rfl, HB3, Lib.hid (Keeps.refl _ _)⟩
      case round =>
        obtain ⟨p, hp, rfl, HBp, HKp⟩ := hrel
        by_cases hlt2 : p < W
        · go_wp2_with fail
          go_loopw [15] (fun s15 wk => ∃ k : Nat, k ≤ n ∧ s15 = .int .i64 k ∧ Hid (Whole wk g 5 (fcells T (pst W m nb n q r p k))) ∧ Hid (Keeps (fun i => i = g) w3 wk)) (fun s15 _ => n - (RowKit.intOf s15).toNat)
          case atStart => exact ⟨0, Nat.zero_le _, rfl, HBp, HKp⟩
          case round =>
            obtain ⟨k, hk, rfl, HBk, HKk⟩ := hrel
            by_cases hlt3 : k < n
            · obtain ⟨x, hxk⟩ : ∃ x, X[k]? = some x := ⟨_, List.getElem?_eq_getElem (by rw [HXL2.out]; exact hlt3)⟩
              obtain ⟨adv, u, rfl, hbv, hu, hcv⟩ := (HV.out.keeps HKk.out (fun i hi e => HVG.out (by rw [hi, e]))).at' hlt3
              obtain rfl : u = .int .u64 ((eBits e x : Nat) : Int) := by
                rw [qv, List.getElem?_map, List.getElem?_map, hxk] at hu
                injection hu with hu
                exact hu.symm
              have hvb := HBX.out x (List.mem_of_getElem? hxk)
              have hvq : (q r).getD k 0 = eBits e x := by rw [HQX.out]; simp [hxk]
              clear hu hxk
              generalize eBits e x = v at *
              obtain ⟨sh, hsh⟩ : ∃ sh, W - 1 - p = sh := ⟨_, rfl⟩
              have s1 : (W : Int) - 1 - (p : Int) = (sh : Int) := by omega
              have s2 : IntKind.u64.wrap (sh : Int) = (sh : Int) := by rw [IntKind.wrap_u64]; omega

              obtain ⟨hbd1, hbd2⟩ := HBD.out
              obtain ⟨pm, hpm⟩ : ∃ pm, p * m = pm := ⟨_, rfl⟩
              obtain ⟨z, hz⟩ : ∃ z, (pm + r) * nb = z := ⟨_, rfl⟩
              have hpm1 : pm + m ≤ WM := by
                rw [← hpm, ← HWT.out.1, show p * m + m = (p + 1) * m by rw [Nat.add_mul, Nat.one_mul]]
                exact Nat.mul_le_mul_right m hlt2
              have hz1 : z + nb ≤ T := by
                rw [← hz, ← HWT.out.2, show (pm + r) * nb + nb = (pm + r + 1) * nb from (Nat.succ_mul (pm + r) nb).symm]
                exact Nat.mul_le_mul_right nb (by omega)
              have g1 := wrapMul hpm (by omega)
              have g2 : IntKind.i64.wrap (((pm : Int) + (r : Int)) * (nb : Int)) = (z : Int) := by
                have h := wrapMul (a := pm + r) (b := nb) hz (by omega)
                rwa [Int.natCast_add] at h
              obtain ⟨ix, hix⟩ : ∃ ix, z + (nb - 1 - k / 8) = ix := ⟨_, rfl⟩
              have hnbk := HNB.out
              have g3 : (z : Int) + (nb : Int) - 1 - (k : Int) / 8 = (ix : Int) := by omega
              have g4 : ix < T := by omega
              have y1 : IntKind.i64.wrap ((pm : Int) + (r : Int)) = (pm : Int) + (r : Int) := by rw [IntKind.wrap_i64]; omega
              have y2 : IntKind.i64.wrap ((z : Int) + (nb : Int)) = (z : Int) + (nb : Int) := by rw [IntKind.wrap_i64]; omega
              have y3 : IntKind.i64.wrap ((z : Int) + (nb : Int) - 1) = (z : Int) + (nb : Int) - 1 := by rw [IntKind.wrap_i64]; omega
              have y4 : IntKind.i64.wrap ((z : Int) + (nb : Int) - 1 - (k : Int) / 8) = (ix : Int) := by rw [g3, IntKind.wrap_i64]; omega
              clear g3
              have HIX := Lib.hid (show ix = (p * m + r) * nb + (nb - 1 - k / 8) by rw [hpm, hz, hix])
              have hbit2 := Nat.testBit_eq_decide_div_mod_eq (x := v) (i := sh)
              have hdv : (v : Int) / 2 ^ sh = ((v / 2 ^ sh : Nat) : Int) := by simp
              have hv64 : v < 18446744073709551616 := Nat.lt_of_lt_of_le hvb (Nat.pow_le_pow_right (by omega) hW64)
              have hand := bits_and_u64_nat (v / 2 ^ sh) 1 (Nat.lt_of_le_of_lt (Nat.div_le_self _ _) hv64) (by omega)
              rw [and_one, Int.natCast_ediv, Int.natCast_pow] at hand
              have s3 : (0 : Int) ≤ (sh : Int) := by omega
              have s4 : (0 : Int) ≤ (k : Int) % 8 := by omega
              clear hvb hpm hz hix hnbk hv64 hdv hbd1 hbd2
              by_cases hbt : v.testBit sh = true
              · have hb1 : Go.bits .and .u64 ((v : Int) / 2 ^ sh) 1 = 1 := by
                  rw [hbt] at hbit2
                  have := of_decide_eq_true hbit2.symm
                  rw [this] at hand
                  exact hand
                clear hand hbit2
                have hc0 := HBk.out.cell ix
                rw [fcells_get g4] at hc0
                have hfz := HBk.out.frozen ix
                have hgl := HBk.out.lt
                have hS := pst_step1 (W := W) (m := m) (nb := nb) (n := n) (q := q) (r := r) (p := p) (k := k) hlt hlt3 HNB.out (by rw [hvq, hsh]; exact hbt)
                obtain ⟨old, hold⟩ : ∃ old, pst W m nb n q r p k ix = old := ⟨_, rfl⟩
                have ho := pst_lt (W := W) (m := m) (nb := nb) (n := n) (q := q) r p k ix
                rw [hold] at hc0 ho
                have h256 := (pow8 k).2
                obtain ⟨y, hy⟩ : ∃ y, 2 ^ (k % 8) = y := ⟨_, rfl⟩
                rw [hy] at h256
                have hy2 : (2 : Int) ^ (k % 8) = (y : Int) := by rw [← hy]; simp
                have hsh8 : IntKind.u8.wrap (y : Int) = (y : Int) := by rw [IntKind.wrap_u8]; omega
                have hor := bor_u8 old y ho h256
                have hk8 : ((k : Int) % 8).toNat = k % 8 := by omega
                have HFN := Lib.hid (show (fcells T (pst W m nb n q r p k)).setIfInBounds ix (.int .u8 ((old ||| y : Nat) : Int)) = fcells T (pst W m nb n q r p (k + 1)) by
                  rw [fcells_put]
                  refine fcells_congr fun i _ => ?_
                  rw [hS i, ← HIX.out, ← hold, hy]
                  by_cases hi : i = ix
                  · rw [if_pos hi, if_pos hi, hi]
                  · rw [if_neg hi, if_neg hi])
                clear hS hbt hvq hold ho hy
                go_wp2_with fail
                go_roundw
                case rel => exact ⟨k + 1, by omega, by go_num, Lib.hid (by rw [← HFN.out]; exact HBk.out.put ix _), Lib.hid (HKk.out.setCell (p := ⟨g, ix, none⟩) (.inl rfl) _)⟩
                case measure => (first | (simp [RowKit.intOf]; done) | (simp [RowKit.intOf]; omega))
              · have hb0 : Go.bits .and .u64 ((v : Int) / 2 ^ sh) 1 = 0 := by
                  have hbf : v.testBit sh = false := by simpa using hbt
                  rw [hbf] at hbit2
                  have := of_decide_eq_false hbit2.symm
                  have h0 : v / 2 ^ sh % 2 = 0 := by omega
                  rw [h0] at hand
                  exact hand
                have HFN := Lib.hid (show fcells T (pst W m nb n q r p k) = fcells T (pst W m nb n q r p (k + 1)) from fcells_congr fun i _ => (pst_step0 (by rw [hvq, hsh]; simpa using hbt) i).symm)
                clear hand hbit2 hbt hvq g1 g2 y1 y2 y3 y4 s4
                go_wp2_with fail
                go_roundw
                case rel => exact ⟨k + 1, by omega, by go_num, Lib.hid (by rw [← HFN.out]; exact HBk.out), HKk⟩
                case measure => (first | (simp [RowKit.intOf]; done) | (simp [RowKit.intOf]; omega))
            · obtain rfl : k = n := by omega
              have HFN := Lib.hid (show fcells T (pst W m nb k q r p k) = fcells T (pst W m nb k q r (p + 1) 0) from fcells_congr fun i _ => pst_plane r p i)
              go_wp2_with fail
              go_roundw
              case rel => exact ⟨p + 1, by omega, by go_num, Lib.hid (by rw [← HFN.out]; exact HBk.out), HKk⟩
              case measure => (first | (simp [RowKit.intOf]; done) | (simp [RowKit.intOf]; omega))
        · obtain rfl : p = W := by omega
          have HFN := Lib.hid (show fcells T (pst p m nb n q r p 0) = fcells T (pst p m nb n q (r + 1) 0 0) from fcells_congr fun i hi => pst_row r i hm0 hnb0 (by rw [HWT.out.1, HWT.out.2]; exact hi))
          go_wp2_with fail
          go_roundw
          case rel => exact ⟨r + 1, by omega, by go_num, Lib.hid (by rw [← HFN.out]; exact HBp.out), Lib.hid (HK3.out.trans HKp.out (fun i hi e => by have := HG.out; omega))⟩
          case measure => (first | (simp [RowKit.intOf]; done) | (simp [RowKit.intOf]; omega))
    · obtain rfl : r = m := by omega
      have HFN := Lib.hid (show fcells T (pst W r nb n q r 0 0) = fcells T (pfin W r nb n q) from fcells_congr fun i _ => pst_end i hm0)
      go_wp2_with fail
      go_ret
      exact ⟨g, rfl, HG.out, by rw [← HFN.out]; exact HB.out, HK.out⟩
end Go.Proofs.Ytfkokngjclaikaa
