/- The specification on rows of numbers of 32 bits: lengths, all of them, their bytes, equality. Conditions: sizes far below the machine's. -/
import Derived.Test.YtgnbeianlnepfaaNo
import Derived.BigQuiet
namespace Go.Proofs.Ytgnbeianlnepfaa
open Go.RowKit Go.Lib
set_option linter.unusedVariables false
theorem flat_end' {α : Type} {RR : List (List α)} {k : Nat} {X : List α} (h : RR[k]? = some X) : X.length ≤ RR.flatten.length := by
  have h1 := flat_le RR (k + 1)
  rw [take_flat h, List.length_append] at h1
  omega
theorem NumsOf.keeps {w w' : World} {A : Option Addr} {LL : List (List Nat)} (h : NumsOf w A LL) (hk : Keeps (fun _ => False) w w') : NumsOf w' A LL := RowsV.keeps h hk
theorem NumsOf.at' {w : World} {A : Option Addr} {LL : List (List Nat)} (h : NumsOf w A LL) {i : Nat} {L : List Nat} (hL : LL[i]? = some L) : ∃ (ad : Addr) (B : Option Addr) (d : Nat), A = some ad ∧ ad.block < w.heap.size ∧ w.cell? (ad.add i) = some (.slice B L.length d) ∧ Rd w 1 B L.length (nv L) := by
  obtain ⟨ad, B, d, h1, h2, h3, h4⟩ := h i (nv L) (by rw [List.getElem?_map, hL]; rfl)
  rw [show (nv L).length = L.length by simp [nv]] at h3 h4
  exact ⟨ad, B, d, h1, h2, h3, h4⟩
theorem nv_at {X : List Nat} {i : Nat} {u : Value} {x : Nat} (hu : (nv X)[i]? = some u) (hx : X[i]? = some x) : u = .int .u32 (x : Int) := by
  rw [nv, List.getElem?_map, hx] at hu
  injection hu with hu
  exact hu.symm
set_option maxRecDepth 100000 in
set_option maxHeartbeats 2000000 in
theorem arLensN (w : World) (A : Option Addr) (n c : Nat) (LL : List (List Nat)) (hl : LL.length = n) (hR : NumsOf w A LL) (hn : n ≤ 100000) (hf : LL.flatten.length ≤ 100000) :
    Calls Try.prog 23 #[.slice A n c] w fun e w' => OwnRes w 3 (LL.map fun L => .int .i64 (L.length : Int)) n e w' := by
  obtain ⟨i0, hi0, hz0, hz1, hz2⟩ := info_parts infoIntE
  have HR := Lib.hid hR
  have HL := Lib.hid hl
  clear hR hl
  go_enter Try.func23, Try.ntmps23
  go_wp2_with fail
  go_loopw [3, 4] (fun v i wr => ∃ (k : Nat) (A1 : Option Addr) (c1 : Nat), k ≤ n ∧ i = .int .i64 k ∧ v = .slice A1 k c1 ∧ wr.ownsRow w.heap.size 3 1 (.slice A1 k c1) k ((LL.take k).map fun L => .int .i64 (L.length : Int)) ∧ Keeps (fun _ => False) w wr) (fun _ i _ => n - (RowKit.intOf i).toNat)
  case atStart => exact ⟨0, none, 0, Nat.zero_le _, rfl, rfl, World.ownsRow_nil w w.heap.size 3 1, Keeps.refl _ _⟩
  case round =>
    obtain ⟨k, A1, c1, hk, rfl, rfl, hown, hK⟩ := hrel
    by_cases hlt : k < n
    · obtain ⟨L, hL⟩ : ∃ L, LL[k]? = some L := ⟨_, List.getElem?_eq_getElem (by rw [HL.out]; exact hlt)⟩
      have HT := Lib.hid (take_map (fun L : List Nat => .int .i64 (L.length : Int)) hL)
      obtain ⟨ad, B, d, rfl, hl, hcell, hRd⟩ := (HR.out.keeps hK).at' hL
      clear hL
      have hKa := hK.alloc (.cells #[.int .i64 (L.length : Int)] 3)
      have howna := own_keeps hown ((Keeps.refl (fun _ => False) wr).alloc (.cells #[.int .i64 (L.length : Int)] 3)) (fun _ _ h => h)
      go_wp2_with (at_builtin
                   refine wpList_append_rd _ rfl (.tmp 11) (.tmp 17) _ rfl w.heap.size 3 i0 _ 1 8 Try.underlying36 hi0 hz0 hz1 hz2 rfl Nat.one_pos A1 c1 k _ rfl howna (some ⟨wr.heap.size, 0, none⟩) 1 1 [.int .i64 (L.length : Int)] rfl (rd_one wr 3 _) (one_val _ rfl) (by simp only [maxLen]; omega) (by omega) hKa.size ?_
                   intro A2 c2 w2 hown2 hg2 hat2)
      have hK2 := hKa.grown hg2 (fun i hi => .inr (howna.lt i (by rw [ownBlock_slice]; exact hi)).1)
      rw [HT.out] at hown2
      go_roundw
      case rel => exact ⟨k + 1, A2, c2, by omega, by go_num, rfl, hown2, hK2⟩
      case measure => (first | (simp [RowKit.intOf]; done) | (simp [RowKit.intOf]; omega))
    · have hkn : k = n := by omega
      subst hkn
      rw [List.take_of_length_le (by rw [HL.out]; exact Nat.le_refl _)] at hown
      go_wp2_with fail
      go_ret
      exact OwnRes.mk hown hK
set_option maxRecDepth 100000 in
set_option maxHeartbeats 2000000 in
theorem arFlatN (w : World) (A : Option Addr) (n c : Nat) (LL : List (List Nat)) (hl : LL.length = n) (hR : NumsOf w A LL) (hn : n ≤ 100000) (hf : LL.flatten.length ≤ 100000) :
    Calls Try.prog 24 #[.slice A n c] w fun e w' => OwnRes w 30 (nv LL.flatten) LL.flatten.length e w' := by
  obtain ⟨i0, hi0, hz0, hz1, hz2⟩ := info_parts infoN
  have HR := Lib.hid hR
  have HL := Lib.hid hl
  have HF := Lib.hid (fun k => Nat.le_trans (flat_le LL k) hf)
  clear hR hl hf
  go_enter Try.func24, Try.ntmps24
  go_wp2_with fail
  go_loopw [3, 4] (fun v i wr => ∃ (k m : Nat) (A1 : Option Addr) (c1 : Nat), k ≤ n ∧ m = (LL.take k).flatten.length ∧ i = .int .i64 k ∧ v = .slice A1 m c1 ∧ wr.ownsRow w.heap.size 30 1 (.slice A1 m c1) m (nv (LL.take k).flatten) ∧ Keeps (fun _ => False) w wr) (fun _ i _ => n - (RowKit.intOf i).toNat)
  case atStart => exact ⟨0, 0, none, 0, Nat.zero_le _, by simp, rfl, rfl, World.ownsRow_nil w w.heap.size 30 1, Keeps.refl _ _⟩
  case round =>
    obtain ⟨k, m, A1, c1, hk, hm, rfl, rfl, hown, hK⟩ := hrel
    by_cases hlt : k < n
    · obtain ⟨L, hL⟩ : ∃ L, LL[k]? = some L := ⟨_, List.getElem?_eq_getElem (by rw [HL.out]; exact hlt)⟩
      have HT := Lib.hid (take_flat hL)
      have hm1 : m ≤ 100000 := by rw [hm]; exact HF.out k
      have hm2 : m + L.length ≤ 100000 := by have := HF.out (k + 1); rw [HT.out, List.length_append, ← hm] at this; exact this
      obtain ⟨ad, B, d, rfl, hl, hcell, hRd⟩ := (HR.out.keeps hK).at' hL
      have HM := Lib.hid hm
      clear hL hm
      go_wp2_with (at_builtin
                   refine wpList_append_rd _ rfl (.tmp 11) (.tmp 15) _ rfl w.heap.size 30 i0 _ 1 4 Try.underlying23 hi0 hz0 hz1 hz2 rfl Nat.one_pos A1 c1 m _ rfl hown B L.length d _ rfl hRd (nv_one L) (by simp only [maxLen]; omega) (by omega) hK.size ?_
                   intro A2 c2 w2 hown2 hg2 hat2)
      have hK2 := hK.grown hg2 (fun i hi => .inr (hown.lt i (by rw [ownBlock_slice]; exact hi)).1)
      rw [← nv_app, ← HT.out] at hown2
      go_roundw
      case rel => exact ⟨k + 1, m + L.length, A2, c2, by omega, by rw [HT.out, List.length_append, ← HM.out], by go_num, rfl, hown2, hK2⟩
      case measure => (first | (simp [RowKit.intOf]; done) | (simp [RowKit.intOf]; omega))
    · have hkn : k = n := by omega
      subst hkn
      have e : LL.take k = LL := List.take_of_length_le (by rw [HL.out]; exact Nat.le_refl _)
      rw [e] at hown hm
      subst hm
      go_wp2_with fail
      go_ret
      exact OwnRes.mk hown hK
set_option maxRecDepth 100000 in
set_option maxHeartbeats 2000000 in
theorem arNumsB (w : World) (A : Option Addr) (n c : Nat) (xs : List Nat) (hl : xs.length = n) (hR : Rd w 1 A n (nv xs)) (hn : n ≤ 100000) (hx : ∀ x ∈ xs, x < 4294967296) :
    Calls Try.prog 12 #[.slice A n c] w fun e w' => OwnRes w 5 (Lib.byteCells (u32s xs)) (4 * n) e w' := by
  obtain ⟨i0, hi0, hz0, hz1, hz2⟩ := info_parts infoU8
  have HR := Lib.hid hR
  have HL := Lib.hid hl
  have HX := Lib.hid hx
  clear hR hl hx
  go_enter Try.func12, Try.ntmps12
  go_wp2_with fail
  go_loopw [3, 4] (fun v i wr => ∃ (k : Nat) (A1 : Option Addr) (c1 : Nat), k ≤ n ∧ i = .int .i64 k ∧ v = .slice A1 (4 * k) c1 ∧ wr.ownsRow w.heap.size 5 1 (.slice A1 (4 * k) c1) (4 * k) (Lib.byteCells (u32s (xs.take k))) ∧ Keeps (fun _ => False) w wr) (fun _ i _ => n - (RowKit.intOf i).toNat)
  case atStart => exact ⟨0, none, 0, Nat.zero_le _, rfl, rfl, World.ownsRow_nil w w.heap.size 5 1, Keeps.refl _ _⟩
  case round =>
    obtain ⟨k, A1, c1, hk, rfl, rfl, hown, hK⟩ := hrel
    by_cases hlt : k < n
    · have hkl : k < xs.length := by rw [HL.out]; exact hlt
      obtain ⟨x, hx⟩ : ∃ x, xs[k]? = some x := ⟨_, List.getElem?_eq_getElem hkl⟩
      have HT := Lib.hid (show u32s (xs.take (k + 1)) = u32s (xs.take k) ++ leb 4 x by rw [List.take_add_one, hx]; simp [u32s])
      have hxb := HX.out x (List.mem_of_getElem? hx)
      obtain ⟨ad, u, rfl, hb, hu, hcell⟩ := (HR.out.keeps hK (fun _ _ h => h)).at' hlt
      have hu' := nv_at hu hx
      subst hu'
      have hxm : (x : Int) % 18446744073709551616 = (x : Int) := by omega
      have HN := Lib.hid (fun w => stNumber w x 4 (by omega) (by omega))
      clear hu hx hkl
      go_wp2_with (first
        | (go_at_call 30
           refine (HN.out _).mono ?_
           rintro e w2 ⟨A2, c2, rfl, hown2, hK2, hA2⟩
           have hK02 := hK.trans hK2 (fun _ _ h => h)
           have hown12 := own_keeps hown hK2 (fun _ _ h => h))
        | (at_builtin
           refine wpList_append_rd _ rfl (.tmp 11) (.tmp 17) _ rfl w.heap.size 5 i0 _ 1 1 Try.underlying25 hi0 hz0 hz1 hz2 rfl Nat.one_pos A1 c1 (4 * k) _ rfl hown12 A2 4 c2 _ rfl (Rd.own hown2) (byteCells_one _) (by simp only [maxLen]; omega) (by omega) hK02.size ?_
           intro A3 c3 w3 hown3 hg3 hat3))
      have hK3 := hK02.grown hg3 (fun i hi => .inr (hown12.lt i (by rw [ownBlock_slice]; exact hi)).1)
      rw [← Lib.byteCells_append] at hown3
      go_roundw
      case rel => exact ⟨k + 1, A3, c3, by omega, by go_num, rfl, by rw [HT.out]; exact hown3, hK3⟩
      case measure => (first | (simp [RowKit.intOf]; done) | (simp [RowKit.intOf]; omega))
    · have hkn : k = n := by omega
      subst hkn
      rw [List.take_of_length_le (by rw [HL.out]; exact Nat.le_refl _)] at hown
      have HOW := Lib.hid hown
      clear hown
      go_wp2_with fail
      go_ret
      exact OwnRes.mk HOW.out hK
def Quiet (w : World) (e : Ending) (w' : World) : Prop := e = .returned (.bool true) ∧ ∃ m, w' = w.drewN m
theorem Quiet.keeps {w : World} {e : Ending} {w' : World} (h : Quiet w e w') : e = .returned (.bool true) ∧ Keeps (fun _ => False) w w' := by
  obtain ⟨h1, m, rfl⟩ := h
  exact ⟨h1, Keeps.drewN (Keeps.refl _ _) _⟩
set_option maxRecDepth 100000 in
set_option maxHeartbeats 2000000 in
theorem arSameListN (w : World) (A B : Option Addr) (n c d : Nat) (xs : List Nat) (hl : xs.length = n) (hA : Rd w 1 A n (nv xs)) (hB : Rd w 1 B n (nv xs)) (hn : n ≤ 100000) :
    Calls Try.prog 19 #[.slice A n c, .slice B n d] w fun e w' => Quiet w e w' := by
  have HA := Lib.hid hA
  have HB := Lib.hid hB
  have HL := Lib.hid hl
  clear hA hB hl
  go_enter Try.func19, Try.ntmps19
  go_wp2
  go_loopw [4, 5] (fun _ i wr => ∃ k m : Nat, k ≤ n ∧ i = .int .i64 k ∧ wr = w.drewN m) (fun _ i _ => n - (RowKit.intOf i).toNat)
  case atStart => exact ⟨0, 0, Nat.zero_le _, rfl, rfl⟩
  case round =>
    obtain ⟨k, m, hk, rfl, hm⟩ := hrel
    by_cases hlt : k < n
    · obtain ⟨x, hx⟩ : ∃ x, xs[k]? = some x := ⟨_, List.getElem?_eq_getElem (by rw [HL.out]; exact hlt)⟩
      have hK : Keeps (fun _ => False) w wr := by rw [hm]; exact Keeps.drewN (Keeps.refl _ _) _
      obtain ⟨ad, u, rfl, hb, hu, hcell⟩ := (HA.out.keeps hK (fun _ _ h => h)).at' hlt
      obtain ⟨ad2, u2, rfl, hb2, hu2, hcell2⟩ := (HB.out.keeps hK (fun _ _ h => h)).at' hlt
      have hu' := nv_at hu hx
      have hu2' := nv_at hu2 hx
      subst hu' hu2'
      have HM := Lib.hid hm
      clear hu hu2 hx hm hK
      go_wp2
      go_quiet (fail)
      go_wp2
      go_roundw
      case rel => exact ⟨k + 1, m + nq, by omega, by go_num, by rw [HM.out, World.drewN_drewN]⟩
      case measure => (first | (simp [RowKit.intOf]; done) | (simp [RowKit.intOf]; omega))
    · go_wp2
      go_ret
      exact ⟨rfl, m, by first | exact hm | rfl⟩
set_option maxRecDepth 100000 in
set_option maxHeartbeats 2000000 in
theorem arSameN (w : World) (A B : Option Addr) (n c d : Nat) (LL : List (List Nat)) (hl : LL.length = n) (hA : NumsOf w A LL) (hB : NumsOf w B LL) (hn : n ≤ 100000) (hf : LL.flatten.length ≤ 100000) :
    Calls Try.prog 27 #[.slice A n c, .slice B n d] w fun e w' => Quiet w e w' := by
  have HA := Lib.hid hA
  have HB := Lib.hid hB
  have HL := Lib.hid hl
  have HF := Lib.hid hf
  clear hA hB hl hf
  go_enter Try.func27, Try.ntmps27
  go_wp2
  go_loopw [4, 5] (fun _ i wr => ∃ k m : Nat, k ≤ n ∧ i = .int .i64 k ∧ wr = w.drewN m) (fun _ i _ => n - (RowKit.intOf i).toNat)
  case atStart => exact ⟨0, 0, Nat.zero_le _, rfl, rfl⟩
  case round =>
    obtain ⟨k, m, hk, rfl, hm⟩ := hrel
    by_cases hlt : k < n
    · obtain ⟨X, hX⟩ : ∃ X, LL[k]? = some X := ⟨_, List.getElem?_eq_getElem (by rw [HL.out]; exact hlt)⟩
      have hK : Keeps (fun _ => False) w wr := by rw [hm]; exact Keeps.drewN (Keeps.refl _ _) _
      obtain ⟨ad, B1, d1, rfl, hb, hcell, hR1⟩ := (HA.out.keeps hK).at' hX
      obtain ⟨ad2, B2, d2, rfl, hb2, hcell2, hR2⟩ := (HB.out.keeps hK).at' hX
      have hXl : X.length ≤ 100000 := by
        have := flat_end' hX
        have := HF.out
        omega
      have HM := Lib.hid hm
      have HS := Lib.hid (fun z => arSameListN (wr.drewN z) B1 B2 X.length d1 d2 X rfl (hR1.keeps (Keeps.drewN (Keeps.refl _ _) z) (fun _ _ h => h)) (hR2.keeps (Keeps.drewN (Keeps.refl _ _) z) (fun _ _ h => h)) hXl)
      clear hX hm hK hR1 hR2
      go_wp2
      go_quiet ((go_at_call 19; exact Calls.quiet_of (HS.out _)))
      go_wp2
      go_roundw
      case rel => exact ⟨k + 1, m + nq, by omega, by go_num, by rw [HM.out, World.drewN_drewN]⟩
      case measure => (first | (simp [RowKit.intOf]; done) | (simp [RowKit.intOf]; omega))
    · go_wp2
      go_ret
      exact ⟨rfl, m, by first | exact hm | rfl⟩
end Go.Proofs.Ytgnbeianlnepfaa
