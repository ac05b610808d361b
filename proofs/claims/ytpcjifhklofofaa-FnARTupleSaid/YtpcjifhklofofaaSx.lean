/- What the laws on columns of columns use of the specification: numbers as bytes, lists held to lists, byte strings joined. Conditions: sizes far below the machine's. -/
import Derived.Test.YtpcjifhklofofaaNm
import Derived.Test.YtpcjifhklofofaaArL
import Derived.BigQuiet
import Derived.Deep.QuietTactic
namespace Go.Proofs.Ytpcjifhklofofaa
open Go.RowKit Go.Lib
set_option linter.unusedVariables false
theorem str_at {X : List ByteArray} {i : Nat} {u : Value} {x : ByteArray} (hu : (X.map Value.string)[i]? = some u) (hx : X[i]? = some x) : u = .string x := by
  rw [List.getElem?_map, hx] at hu
  exact (Option.some.inj hu).symm
theorem flat_end' {α : Type} {RR : List (List α)} {k : Nat} {X : List α} (h : RR[k]? = some X) : X.length ≤ RR.flatten.length := by
  have h1 := flat_le RR (k + 1)
  rw [take_flat h, List.length_append] at h1
  omega
theorem nv_at {X : List Nat} {i : Nat} {u : Value} {x : Nat} (hu : (nv X)[i]? = some u) (hx : X[i]? = some x) : u = .int .u32 (x : Int) := by
  rw [nv, List.getElem?_map, hx] at hu
  injection hu with hu
  exact hu.symm
set_option maxRecDepth 100000 in
set_option maxHeartbeats 2000000 in
theorem arNumsB (w : World) (A : Option Addr) (n c : Nat) (xs : List Nat) (hl : xs.length = n) (hR : Rd w 1 A n (nv xs)) (hn : n ≤ 100000) (hx : ∀ x ∈ xs, x < 4294967296) :
    Calls Try.prog 11 #[.slice A n c] w fun e w' => OwnRes w 5 (Lib.byteCells (u32s xs)) (4 * n) e w' := by
  obtain ⟨i0, hi0, hz0, hz1, hz2⟩ := info_parts infoU8
  have HR := Lib.hid hR
  have HL := Lib.hid hl
  have HX := Lib.hid hx
  clear hR hl hx
  go_enter Try.func11, Try.ntmps11
  go_wp2_with fail
  go_loopw [3, 4] (fun v i wr => ∃ (k : Nat) (A1 : Option Addr) (c1 : Nat), k ≤ n ∧ i = .int .i64 k ∧ v = .slice A1 (4 * k) c1 ∧ wr.ownsRow w.heap.size 5 1 (.slice A1 (4 * k) c1) (4 * k) (Lib.byteCells (u32s (xs.take k))) ∧ Keeps (fun _ => False) w wr) (fun _ i _ => n - (RowKit.intOf i).toNat)
  case atStart => exact ⟨0, none, 0, Nat.zero_le _, rfl, rfl, World.ownsRow_nil w w.heap.size 5 1, Keeps.refl _ _⟩
  case round =>
    obtain ⟨k, A1, c1, hk, rfl, rfl, hown, hK⟩ := hrel
    by_cases hlt : k < n
    · have hkl : k < xs.length := by rw [HL.out]; exact hlt
      obtain ⟨x, hx⟩ : ∃ x, xs[k]? = some x := ⟨_, List.getElem?_eq_getElem hkl⟩
      have HT := Lib.hid (show u32s (xs.take (k + 1)) = u32s (xs.take k) ++ leb 4 x by rw [List.take_add_one, hx]; simp [u32s])
      have hxb := HX.out x (List.mem_of_getElem? hx)
      obtain ⟨ad, u, rfl, hb, hu, hcell⟩ := (HR.out.keeps hK (fun _ _ h => h)).at' hlt
      have hu' := nv_at hu hx
      subst hu'
      have hxm : (x : Int) % 18446744073709551616 = (x : Int) := by omega
      have HN := Lib.hid (fun w => stNumber w x 4 (by omega) (by omega))
      clear hu hx hkl
      go_wp2_with (first
        | (go_at_call 22
           refine (HN.out _).mono ?_
           rintro e w2 ⟨A2, c2, rfl, hown2, hK2, hA2⟩
           have hK02 := hK.trans hK2 (fun _ _ h => h)
           have hown12 := own_keeps hown hK2 (fun _ _ h => h))
        | (at_builtin
           refine wpList_append_rd _ rfl (.tmp 11) (.tmp 17) _ rfl w.heap.size 5 i0 _ 1 1 Try.underlying25 hi0 hz0 hz1 hz2 rfl Nat.one_pos A1 c1 (4 * k) _ rfl hown12 A2 4 c2 _ rfl (Rd.own hown2) (byteCells_one _) (by simp only [maxLen]; omega) (by omega) hK02.size ?_
           intro A3 c3 w3 hown3 hg3 hat3))
      have hK3 := hK02.grown hg3 (fun i hi => .inr (hown12.lt i (by rw [ownBlock_slice]; exact hi)).1)
      rw [← Lib.byteCells_append] at hown3
      go_roundw
      case rel => exact ⟨k + 1, A3, c3, by omega, by go_num, rfl, by rw [HT.out]; exact hown3, hK3⟩
      case measure => (first | (simp [RowKit.intOf]; done) | (simp [RowKit.intOf]; omega))
    · have hkn : k = n := by omega
      subst hkn
      rw [List.take_of_length_le (by rw [HL.out]; exact Nat.le_refl _)] at hown
      have HOW := Lib.hid hown
      clear hown
      go_wp2_with fail
      go_ret
      exact OwnRes.mk HOW.out hK
def Quiet (w : World) (e : Ending) (w' : World) : Prop := e = .returned (.bool true) ∧ ∃ m, w' = w.drewN m
theorem Quiet.keeps {w : World} {e : Ending} {w' : World} (h : Quiet w e w') : e = .returned (.bool true) ∧ Keeps (fun _ => False) w w' := by
  obtain ⟨h1, m, rfl⟩ := h
  exact ⟨h1, Keeps.drewN (Keeps.refl _ _) _⟩
set_option maxRecDepth 100000 in
set_option maxHeartbeats 2000000 in
theorem arSameListN (w : World) (A B : Option Addr) (n c d : Nat) (xs : List Nat) (hl : xs.length = n) (hA : Rd w 1 A n (nv xs)) (hB : Rd w 1 B n (nv xs)) (hn : n ≤ 100000) :
    Calls Try.prog 18 #[.slice A n c, .slice B n d] w fun e w' => Quiet w e w' := by
  have HA := Lib.hid hA
  have HB := Lib.hid hB
  have HL := Lib.hid hl
  clear hA hB hl
  go_enter Try.func18, Try.ntmps18
  go_wp2
  go_loopw [4, 5] (fun _ i wr => ∃ k m : Nat, k ≤ n ∧ i = .int .i64 k ∧ wr = w.drewN m) (fun _ i _ => n - (RowKit.intOf i).toNat)
  case atStart => exact ⟨0, 0, Nat.zero_le _, rfl, rfl⟩
  case round =>
    obtain ⟨k, m, hk, rfl, hm⟩ := hrel
    by_cases hlt : k < n
    · obtain ⟨x, hx⟩ : ∃ x, xs[k]? = some x := ⟨_, List.getElem?_eq_getElem (by rw [HL.out]; exact hlt)⟩
      have hK : Keeps (fun _ => False) w wr := by rw [hm]; exact Keeps.drewN (Keeps.refl _ _) _
      obtain ⟨ad, u, rfl, hb, hu, hcell⟩ := (HA.out.keeps hK (fun _ _ h => h)).at' hlt
      obtain ⟨ad2, u2, rfl, hb2, hu2, hcell2⟩ := (HB.out.keeps hK (fun _ _ h => h)).at' hlt
      have hu' := nv_at hu hx
      have hu2' := nv_at hu2 hx
      subst hu' hu2'
      have HM := Lib.hid hm
      clear hu hu2 hx hm hK
      go_wp2
      go_quiet (fail)
      go_wp2
      go_roundw
      case rel => exact ⟨k + 1, m + nq, by omega, by go_num, by rw [HM.out, World.drewN_drewN]⟩
      case measure => (first | (simp [RowKit.intOf]; done) | (simp [RowKit.intOf]; omega))
    · go_wp2
      go_ret
      exact ⟨rfl, m, by first | exact hm | rfl⟩
set_option maxRecDepth 100000 in
set_option maxHeartbeats 2000000 in
theorem arSameListS (w : World) (A B : Option Addr) (n c d : Nat) (xs : List ByteArray) (hl : xs.length = n) (hA : Rd w 1 A n (xs.map Value.string)) (hB : Rd w 1 B n (xs.map Value.string)) (hn : n ≤ 100000) :
    Calls Try.prog 17 #[.slice A n c, .slice B n d] w fun e w' => Quiet w e w' := by
  have HA := Lib.hid hA
  have HB := Lib.hid hB
  have HL := Lib.hid hl
  clear hA hB hl
  go_enter Try.func17, Try.ntmps17
  go_wp2
  go_loopw [4, 5] (fun _ i wr => ∃ k m : Nat, k ≤ n ∧ i = .int .i64 k ∧ wr = w.drewN m) (fun _ i _ => n - (RowKit.intOf i).toNat)
  case atStart => exact ⟨0, 0, Nat.zero_le _, rfl, rfl⟩
  case round =>
    obtain ⟨k, m, hk, rfl, hm⟩ := hrel
    by_cases hlt : k < n
    · obtain ⟨x, hx⟩ : ∃ x, xs[k]? = some x := ⟨_, List.getElem?_eq_getElem (by rw [HL.out]; exact hlt)⟩
      have hK : Keeps (fun _ => False) w wr := by rw [hm]; exact Keeps.drewN (Keeps.refl _ _) _
      obtain ⟨ad, u, rfl, hb, hu, hcell⟩ := (HA.out.keeps hK (fun _ _ h => h)).at' hlt
      obtain ⟨ad2, u2, rfl, hb2, hu2, hcell2⟩ := (HB.out.keeps hK (fun _ _ h => h)).at' hlt
      have hu' := str_at hu hx
      have hu2' := str_at hu2 hx
      subst hu' hu2'
      have HM := Lib.hid hm
      clear hu hu2 hx hm hK
      go_wp2
      go_quiet (fail)
      go_wp2
      go_roundw
      case rel => exact ⟨k + 1, m + nq, by omega, by go_num, by rw [HM.out, World.drewN_drewN]⟩
      case measure => (first | (simp [RowKit.intOf]; done) | (simp [RowKit.intOf]; omega))
    · go_wp2
      go_ret
      exact ⟨rfl, m, by first | exact hm | rfl⟩
set_option maxRecDepth 100000 in
set_option maxHeartbeats 2000000 in
theorem arSameS (w : World) (A B : Option Addr) (n c d : Nat) (LL : List (List ByteArray)) (hl : LL.length = n) (hA : RowsOf w A LL) (hB : RowsOf w B LL) (hn : n ≤ 100000) (hf : LL.flatten.length ≤ 100000) :
    Calls Try.prog 19 #[.slice A n c, .slice B n d] w fun e w' => Quiet w e w' := by
  have HA := Lib.hid hA
  have HB := Lib.hid hB
  have HL := Lib.hid hl
  have HF := Lib.hid hf
  clear hA hB hl hf
  go_enter Try.func19, Try.ntmps19
  go_wp2
  go_loopw [4, 5] (fun _ i wr => ∃ k m : Nat, k ≤ n ∧ i = .int .i64 k ∧ wr = w.drewN m) (fun _ i _ => n - (RowKit.intOf i).toNat)
  case atStart => exact ⟨0, 0, Nat.zero_le _, rfl, rfl⟩
  case round =>
    obtain ⟨k, m, hk, rfl, hm⟩ := hrel
    by_cases hlt : k < n
    · obtain ⟨X, hX⟩ : ∃ X, LL[k]? = some X := ⟨_, List.getElem?_eq_getElem (by rw [HL.out]; exact hlt)⟩
      have hK : Keeps (fun _ => False) w wr := by rw [hm]; exact Keeps.drewN (Keeps.refl _ _) _
      obtain ⟨ad, B1, d1, rfl, hb, hcell, hR1⟩ := (HA.out.keeps hK).at' hX
      obtain ⟨ad2, B2, d2, rfl, hb2, hcell2, hR2⟩ := (HB.out.keeps hK).at' hX
      have hXl : X.length ≤ 100000 := by
        have := flat_end' hX
        have := HF.out
        omega
      have HM := Lib.hid hm
      have HS := Lib.hid (fun z => arSameListS (wr.drewN z) B1 B2 X.length d1 d2 X rfl (hR1.keeps (Keeps.drewN (Keeps.refl _ _) z) (fun _ _ h => h)) (hR2.keeps (Keeps.drewN (Keeps.refl _ _) z) (fun _ _ h => h)) hXl)
      clear hX hm hK hR1 hR2
      go_wp2
      go_quiet ((go_at_call 17; exact Calls.quiet_of (HS.out _)))
      go_wp2
      go_roundw
      case rel => exact ⟨k + 1, m + nq, by omega, by go_num, by rw [HM.out, World.drewN_drewN]⟩
      case measure => (first | (simp [RowKit.intOf]; done) | (simp [RowKit.intOf]; omega))
    · go_wp2
      go_ret
      exact ⟨rfl, m, by first | exact hm | rfl⟩
set_option maxHeartbeats 1000000 in
theorem stJoinThree (w : World) (g : Nat) (t : TypeId) (A : Option Addr) (n0 c0 : Nat) (l0 : List UInt8) (B : Option Addr) (n1 c1 : Nat) (l1 : List UInt8) (C : Option Addr) (n2 c2 : Nat) (l2 : List UInt8) (hW : Whole w g t #[.slice A n0 c0, .slice B n1 c1, .slice C n2 c2]) (h0 : Rd w 1 A n0 (Lib.byteCells l0)) (h1 : Rd w 1 B n1 (Lib.byteCells l1)) (h2 : Rd w 1 C n2 (Lib.byteCells l2)) (hn : n0 + n1 + n2 ≤ 70368744177664) :
    Calls Try.prog 9 #[.slice (some ⟨g, 0, none⟩) 3 3] w fun e w' => ∃ A' c', e = .returned (.slice A' (n0 + n1 + n2) c') ∧ w'.ownsRow w.heap.size 5 1 (.slice A' (n0 + n1 + n2) c') (n0 + n1 + n2) (Lib.byteCells (l0 ++ l1 ++ l2)) ∧ Keeps (fun _ => False) w w' ∧ ∀ k, ob A' = some k → w.heap.size ≤ k := by
  obtain ⟨i0, hi0, hz0, hz1, hz2⟩ := info_parts infoU8
  have hlt := hW.lt
  have hbl : w.heap.size ≤ w.heap.size := Nat.le_refl _
  have e0 : w.cell? ⟨g, 0, none⟩ = some (.slice A n0 c0) := hW.cell 0
  go_enter Try.func9, Try.ntmps9
  go_wp2_with fail
  refine wp_loop_rounds 4 ?_
  rw [rounds_succ]
  go_wp2_with (first
    | (at_builtin
       refine wpList_append_rd _ rfl (.tmp 11) (.tmp 15) _ rfl w.heap.size 5 i0 _ 1 1 Try.underlying25 hi0 hz0 hz1 hz2 rfl Nat.one_pos none 0 0 (Lib.byteCells []) rfl (World.ownsRow_nil _ _ _ _) A n0 c0 (Lib.byteCells l0) rfl h0 (byteCells_one _) (by simp only [maxLen]; omega) (by omega) (Nat.le_refl _) ?_
       intro R1 r1 w1 o1 hg1 hat1
       have K1 := (Keeps.refl (fun _ => False) w).grown hg1 (fun k hk => by cases hk)
       have e1 : w1.cell? ⟨g, 1, none⟩ = some (.slice B n1 c1) := (hW.keeps K1 (fun h => h)).cell 1
       rw [← Lib.byteCells_append, Nat.zero_add, List.nil_append] at o1
       rw [Nat.zero_add]
       clear e0))
  rw [rounds_succ]
  go_wp2_with (first
    | (at_builtin
       refine wpList_append_rd _ rfl (.tmp 11) (.tmp 15) _ rfl w.heap.size 5 i0 _ 1 1 Try.underlying25 hi0 hz0 hz1 hz2 rfl Nat.one_pos R1 r1 (n0) (Lib.byteCells (l0)) rfl o1 B n1 c1 (Lib.byteCells l1) rfl (h1.keeps K1 (fun _ _ h => h)) (byteCells_one _) (by simp only [maxLen]; omega) (by omega) K1.size ?_
       intro R2 r2 w2 o2 hg2 hat2
       have K2 := K1.grown hg2 (fun k hk => .inr (o1.lt k (by rw [ownBlock_slice]; exact hk)).1)
       have e2 : w2.cell? ⟨g, 2, none⟩ = some (.slice C n2 c2) := (hW.keeps K2 (fun h => h)).cell 2
       rw [← Lib.byteCells_append] at o2
       clear e1))
  rw [rounds_succ]
  go_wp2_with (first
    | (at_builtin
       refine wpList_append_rd _ rfl (.tmp 11) (.tmp 15) _ rfl w.heap.size 5 i0 _ 1 1 Try.underlying25 hi0 hz0 hz1 hz2 rfl Nat.one_pos R2 r2 (n0 + n1) (Lib.byteCells (l0 ++ l1)) rfl o2 C n2 c2 (Lib.byteCells l2) rfl (h2.keeps K2 (fun _ _ h => h)) (byteCells_one _) (by simp only [maxLen]; omega) (by omega) K2.size ?_
       intro R3 r3 w3 o3 hg3 hat3
       have K3 := K2.grown hg3 (fun k hk => .inr (o2.lt k (by rw [ownBlock_slice]; exact hk)).1)
       rw [← Lib.byteCells_append] at o3
       clear e2))
  rw [rounds_succ]
  go_wp2_with fail
  go_ret
  exact ⟨R3, r3, rfl, o3, K3, fun k hk => (o3.lt k (by rw [ownBlock_slice]; exact hk)).1⟩
set_option maxHeartbeats 1000000 in
theorem stJoinFour (w : World) (g : Nat) (t : TypeId) (A : Option Addr) (n0 c0 : Nat) (l0 : List UInt8) (B : Option Addr) (n1 c1 : Nat) (l1 : List UInt8) (C : Option Addr) (n2 c2 : Nat) (l2 : List UInt8) (D : Option Addr) (n3 c3 : Nat) (l3 : List UInt8) (hW : Whole w g t #[.slice A n0 c0, .slice B n1 c1, .slice C n2 c2, .slice D n3 c3]) (h0 : Rd w 1 A n0 (Lib.byteCells l0)) (h1 : Rd w 1 B n1 (Lib.byteCells l1)) (h2 : Rd w 1 C n2 (Lib.byteCells l2)) (h3 : Rd w 1 D n3 (Lib.byteCells l3)) (hn : n0 + n1 + n2 + n3 ≤ 70368744177664) :
    Calls Try.prog 9 #[.slice (some ⟨g, 0, none⟩) 4 4] w fun e w' => ∃ A' c', e = .returned (.slice A' (n0 + n1 + n2 + n3) c') ∧ w'.ownsRow w.heap.size 5 1 (.slice A' (n0 + n1 + n2 + n3) c') (n0 + n1 + n2 + n3) (Lib.byteCells (l0 ++ l1 ++ l2 ++ l3)) ∧ Keeps (fun _ => False) w w' ∧ ∀ k, ob A' = some k → w.heap.size ≤ k := by
  obtain ⟨i0, hi0, hz0, hz1, hz2⟩ := info_parts infoU8
  have hlt := hW.lt
  have hbl : w.heap.size ≤ w.heap.size := Nat.le_refl _
  have e0 : w.cell? ⟨g, 0, none⟩ = some (.slice A n0 c0) := hW.cell 0
  go_enter Try.func9, Try.ntmps9
  go_wp2_with fail
  refine wp_loop_rounds 5 ?_
  rw [rounds_succ]
  go_wp2_with (first
    | (at_builtin
       refine wpList_append_rd _ rfl (.tmp 11) (.tmp 15) _ rfl w.heap.size 5 i0 _ 1 1 Try.underlying25 hi0 hz0 hz1 hz2 rfl Nat.one_pos none 0 0 (Lib.byteCells []) rfl (World.ownsRow_nil _ _ _ _) A n0 c0 (Lib.byteCells l0) rfl h0 (byteCells_one _) (by simp only [maxLen]; omega) (by omega) (Nat.le_refl _) ?_
       intro R1 r1 w1 o1 hg1 hat1
       have K1 := (Keeps.refl (fun _ => False) w).grown hg1 (fun k hk => by cases hk)
       have e1 : w1.cell? ⟨g, 1, none⟩ = some (.slice B n1 c1) := (hW.keeps K1 (fun h => h)).cell 1
       rw [← Lib.byteCells_append, Nat.zero_add, List.nil_append] at o1
       rw [Nat.zero_add]
       clear e0))
  rw [rounds_succ]
  go_wp2_with (first
    | (at_builtin
       refine wpList_append_rd _ rfl (.tmp 11) (.tmp 15) _ rfl w.heap.size 5 i0 _ 1 1 Try.underlying25 hi0 hz0 hz1 hz2 rfl Nat.one_pos R1 r1 (n0) (Lib.byteCells (l0)) rfl o1 B n1 c1 (Lib.byteCells l1) rfl (h1.keeps K1 (fun _ _ h => h)) (byteCells_one _) (by simp only [maxLen]; omega) (by omega) K1.size ?_
       intro R2 r2 w2 o2 hg2 hat2
       have K2 := K1.grown hg2 (fun k hk => .inr (o1.lt k (by rw [ownBlock_slice]; exact hk)).1)
       have e2 : w2.cell? ⟨g, 2, none⟩ = some (.slice C n2 c2) := (hW.keeps K2 (fun h => h)).cell 2
       rw [← Lib.byteCells_append] at o2
       clear e1))
  rw [rounds_succ]
  go_wp2_with (first
    | (at_builtin
       refine wpList_append_rd _ rfl (.tmp 11) (.tmp 15) _ rfl w.heap.size 5 i0 _ 1 1 Try.underlying25 hi0 hz0 hz1 hz2 rfl Nat.one_pos R2 r2 (n0 + n1) (Lib.byteCells (l0 ++ l1)) rfl o2 C n2 c2 (Lib.byteCells l2) rfl (h2.keeps K2 (fun _ _ h => h)) (byteCells_one _) (by simp only [maxLen]; omega) (by omega) K2.size ?_
       intro R3 r3 w3 o3 hg3 hat3
       have K3 := K2.grown hg3 (fun k hk => .inr (o2.lt k (by rw [ownBlock_slice]; exact hk)).1)
       have e3 : w3.cell? ⟨g, 3, none⟩ = some (.slice D n3 c3) := (hW.keeps K3 (fun h => h)).cell 3
       rw [← Lib.byteCells_append] at o3
       clear e2))
  rw [rounds_succ]
  go_wp2_with (first
    | (at_builtin
       refine wpList_append_rd _ rfl (.tmp 11) (.tmp 15) _ rfl w.heap.size 5 i0 _ 1 1 Try.underlying25 hi0 hz0 hz1 hz2 rfl Nat.one_pos R3 r3 (n0 + n1 + n2) (Lib.byteCells (l0 ++ l1 ++ l2)) rfl o3 D n3 c3 (Lib.byteCells l3) rfl (h3.keeps K3 (fun _ _ h => h)) (byteCells_one _) (by simp only [maxLen]; omega) (by omega) K3.size ?_
       intro R4 r4 w4 o4 hg4 hat4
       have K4 := K3.grown hg4 (fun k hk => .inr (o3.lt k (by rw [ownBlock_slice]; exact hk)).1)
       rw [← Lib.byteCells_append] at o4
       clear e3))
  rw [rounds_succ]
  go_wp2_with fail
  go_ret
  exact ⟨R4, r4, rfl, o4, K4, fun k hk => (o4.lt k (by rw [ownBlock_slice]; exact hk)).1⟩
end Go.Proofs.Ytpcjifhklofofaa
