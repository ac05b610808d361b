/- What the laws on columns of columns use of the specification: numbers as bytes, lists held to lists, byte strings joined. Conditions: sizes far below the machine's. -/
import Derived.Test.YtfkokngjclaikaaNm
import Derived.Test.YtfkokngjclaikaaArL
import Derived.BigQuiet
import Derived.Deep.QuietTactic
namespace Go.Proofs.Ytfkokngjclaikaa
open Go.RowKit Go.Lib
set_option linter.unusedVariables false
theorem str_at {X : List ByteArray} {i : Nat} {u : Value} {x : ByteArray} (hu : (X.map Value.string)[i]? = some u) (hx : X[i]? = some x) : u = .string x := by
  rw [List.getElem?_map, hx] at hu
  exact (Option.some.inj hu).symm
theorem flat_end' {α : Type} {RR : List (List α)} {k : Nat} {X : List α} (h : RR[k]? = some X) : X.length ≤ RR.flatten.length := by
  have h1 := flat_le RR (k + 1)
  rw [take_flat h, List.length_append] at h1
  omega
theorem nv_at {X : List Nat} {i : Nat} {u : Value} {x : Nat} (hu : (nv X)[i]? = some u) (hx : X[i]? = some x) : u = .int .u32 (x : Int) := by
  rw [nv, List.getElem?_map, hx] at hu
  injection hu with hu
  exact hu.symm
def Quiet (w : World) (e : Ending) (w' : World) : Prop := e = .returned (.bool true) ∧ ∃ m, w' = w.drewN m
theorem Quiet.keeps {w : World} {e : Ending} {w' : World} (h : Quiet w e w') : e = .returned (.bool true) ∧ Keeps (fun _ => False) w w' := by
  obtain ⟨h1, m, rfl⟩ := h
  exact ⟨h1, Keeps.drewN (Keeps.refl _ _) _⟩
set_option maxRecDepth 100000 in
set_option maxHeartbeats 2000000 in
theorem arSameListN (w : World) (A B : Option Addr) (n c d : Nat) (xs : List Nat) (hl : xs.length = n) (hA : Rd w 1 A n (nv xs)) (hB : Rd w 1 B n (nv xs)) (hn : n ≤ 100000) :
    Calls Try.prog 22 #[.slice A n c, .slice B n d] w fun e w' => Quiet w e w' := by
  have HA := Lib.hid hA
  have HB := Lib.hid hB
  have HL := Lib.hid hl
  clear hA hB hl
  go_enter Try.func22, Try.ntmps22
  go_wp2
  go_loopw [4, 5] (fun _ i wr => ∃ k m : Nat, k ≤ n ∧ i = .int .i64 k ∧ wr = w.drewN m) (fun _ i _ => n - (RowKit.intOf i).toNat)
  case atStart => exact ⟨0, 0, Nat.zero_le _, rfl, rfl⟩
  case round =>
    obtain ⟨k, m, hk, rfl, hm⟩ := hrel
    by_cases hlt : k < n
    · obtain ⟨x, hx⟩ : ∃ x, xs[k]? = some x := ⟨_, List.getElem?_eq_getElem (by rw [HL.out]; exact hlt)⟩
      have hK : Keeps (fun _ => False) w wr := by rw [hm]; exact Keeps.drewN (Keeps.refl _ _) _
      obtain ⟨ad, u, rfl, hb, hu, hcell⟩ := (HA.out.keeps hK (fun _ _ h => h)).at' hlt
      obtain ⟨ad2, u2, rfl, hb2, hu2, hcell2⟩ := (HB.out.keeps hK (fun _ _ h => h)).at' hlt
      have hu' := nv_at hu hx
      have hu2' := nv_at hu2 hx
      subst hu' hu2'
      have HM := Lib.hid hm
      clear hu hu2 hx hm hK
      go_wp2
      go_quiet (fail)
      go_wp2
      go_roundw
      case rel => exact ⟨k + 1, m + nq, by omega, by go_num, by rw [HM.out, World.drewN_drewN]⟩
      case measure => (first | (simp [RowKit.intOf]; done) | (simp [RowKit.intOf]; omega))
    · go_wp2
      go_ret
      exact ⟨rfl, m, by first | exact hm | rfl⟩
set_option maxHeartbeats 1000000 in
theorem stJoinThree (w : World) (g : Nat) (t : TypeId) (A : Option Addr) (n0 c0 : Nat) (l0 : List UInt8) (B : Option Addr) (n1 c1 : Nat) (l1 : List UInt8) (C : Option Addr) (n2 c2 : Nat) (l2 : List UInt8) (hW : Whole w g t #[.slice A n0 c0, .slice B n1 c1, .slice C n2 c2]) (h0 : Rd w 1 A n0 (Lib.byteCells l0)) (h1 : Rd w 1 B n1 (Lib.byteCells l1)) (h2 : Rd w 1 C n2 (Lib.byteCells l2)) (hn : n0 + n1 + n2 ≤ 70368744177664) :
    Calls Try.prog 8 #[.slice (some ⟨g, 0, none⟩) 3 3] w fun e w' => ∃ A' c', e = .returned (.slice A' (n0 + n1 + n2) c') ∧ w'.ownsRow w.heap.size 5 1 (.slice A' (n0 + n1 + n2) c') (n0 + n1 + n2) (Lib.byteCells (l0 ++ l1 ++ l2)) ∧ Keeps (fun _ => False) w w' ∧ ∀ k, ob A' = some k → w.heap.size ≤ k := by
  obtain ⟨i0, hi0, hz0, hz1, hz2⟩ := info_parts infoU8
  have hlt := hW.lt
  have hbl : w.heap.size ≤ w.heap.size := Nat.le_refl _
  have e0 : w.cell? ⟨g, 0, none⟩ = some (.slice A n0 c0) := hW.cell 0
  go_enter Try.func8, Try.ntmps8
  go_wp2_with fail
  refine wp_loop_rounds 4 ?_
  rw [rounds_succ]
  go_wp2_with (first
    | (at_builtin
       refine wpList_append_rd _ rfl (.tmp 11) (.tmp 15) _ rfl w.heap.size 5 i0 _ 1 1 Try.underlying23 hi0 hz0 hz1 hz2 rfl Nat.one_pos none 0 0 (Lib.byteCells []) rfl (World.ownsRow_nil _ _ _ _) A n0 c0 (Lib.byteCells l0) rfl h0 (byteCells_one _) (by simp only [maxLen]; omega) (by omega) (Nat.le_refl _) ?_
       intro R1 r1 w1 o1 hg1 hat1
       have K1 := (Keeps.refl (fun _ => False) w).grown hg1 (fun k hk => by cases hk)
       have e1 : w1.cell? ⟨g, 1, none⟩ = some (.slice B n1 c1) := (hW.keeps K1 (fun h => h)).cell 1
       rw [← Lib.byteCells_append, Nat.zero_add, List.nil_append] at o1
       rw [Nat.zero_add]
       clear e0))
  rw [rounds_succ]
  go_wp2_with (first
    | (at_builtin
       refine wpList_append_rd _ rfl (.tmp 11) (.tmp 15) _ rfl w.heap.size 5 i0 _ 1 1 Try.underlying23 hi0 hz0 hz1 hz2 rfl Nat.one_pos R1 r1 (n0) (Lib.byteCells (l0)) rfl o1 B n1 c1 (Lib.byteCells l1) rfl (h1.keeps K1 (fun _ _ h => h)) (byteCells_one _) (by simp only [maxLen]; omega) (by omega) K1.size ?_
       intro R2 r2 w2 o2 hg2 hat2
       have K2 := K1.grown hg2 (fun k hk => .inr (o1.lt k (by rw [ownBlock_slice]; exact hk)).1)
       have e2 : w2.cell? ⟨g, 2, none⟩ = some (.slice C n2 c2) := (hW.keeps K2 (fun h => h)).cell 2
       rw [← Lib.byteCells_append] at o2
       clear e1))
  rw [rounds_succ]
  go_wp2_with (first
    | (at_builtin
       refine wpList_append_rd _ rfl (.tmp 11) (.tmp 15) _ rfl w.heap.size 5 i0 _ 1 1 Try.underlying23 hi0 hz0 hz1 hz2 rfl Nat.one_pos R2 r2 (n0 + n1) (Lib.byteCells (l0 ++ l1)) rfl o2 C n2 c2 (Lib.byteCells l2) rfl (h2.keeps K2 (fun _ _ h => h)) (byteCells_one _) (by simp only [maxLen]; omega) (by omega) K2.size ?_
       intro R3 r3 w3 o3 hg3 hat3
       have K3 := K2.grown hg3 (fun k hk => .inr (o2.lt k (by rw [ownBlock_slice]; exact hk)).1)
       rw [← Lib.byteCells_append] at o3
       clear e2))
  rw [rounds_succ]
  go_wp2_with fail
  go_ret
  exact ⟨R3, r3, rfl, o3, K3, fun k hk => (o3.lt k (by rw [ownBlock_slice]; exact hk)).1⟩
set_option maxHeartbeats 1000000 in
theorem stJoinFour (w : World) (g : Nat) (t : TypeId) (A : Option Addr) (n0 c0 : Nat) (l0 : List UInt8) (B : Option Addr) (n1 c1 : Nat) (l1 : List UInt8) (C : Option Addr) (n2 c2 : Nat) (l2 : List UInt8) (D : Option Addr) (n3 c3 : Nat) (l3 : List UInt8) (hW : Whole w g t #[.slice A n0 c0, .slice B n1 c1, .slice C n2 c2, .slice D n3 c3]) (h0 : Rd w 1 A n0 (Lib.byteCells l0)) (h1 : Rd w 1 B n1 (Lib.byteCells l1)) (h2 : Rd w 1 C n2 (Lib.byteCells l2)) (h3 : Rd w 1 D n3 (Lib.byteCells l3)) (hn : n0 + n1 + n2 + n3 ≤ 70368744177664) :
    Calls Try.prog 8 #[.slice (some ⟨g, 0, none⟩) 4 4] w fun e w' => ∃ A' c', e = .returned (.slice A' (n0 + n1 + n2 + n3) c') ∧ w'.ownsRow w.heap.size 5 1 (.slice A' (n0 + n1 + n2 + n3) c') (n0 + n1 + n2 + n3) (Lib.byteCells (l0 ++ l1 ++ l2 ++ l3)) ∧ Keeps (fun _ => False) w w' ∧ ∀ k, ob A' = some k → w.heap.size ≤ k := by
  obtain ⟨i0, hi0, hz0, hz1, hz2⟩ := info_parts infoU8
  have hlt := hW.lt
  have hbl : w.heap.size ≤ w.heap.size := Nat.le_refl _
  have e0 : w.cell? ⟨g, 0, none⟩ = some (.slice A n0 c0) := hW.cell 0
  go_enter Try.func8, Try.ntmps8
  go_wp2_with fail
  refine wp_loop_rounds 5 ?_
  rw [rounds_succ]
  go_wp2_with (first
    | (at_builtin
       refine wpList_append_rd _ rfl (.tmp 11) (.tmp 15) _ rfl w.heap.size 5 i0 _ 1 1 Try.underlying23 hi0 hz0 hz1 hz2 rfl Nat.one_pos none 0 0 (Lib.byteCells []) rfl (World.ownsRow_nil _ _ _ _) A n0 c0 (Lib.byteCells l0) rfl h0 (byteCells_one _) (by simp only [maxLen]; omega) (by omega) (Nat.le_refl _) ?_
       intro R1 r1 w1 o1 hg1 hat1
       have K1 := (Keeps.refl (fun _ => False) w).grown hg1 (fun k hk => by cases hk)
       have e1 : w1.cell? ⟨g, 1, none⟩ = some (.slice B n1 c1) := (hW.keeps K1 (fun h => h)).cell 1
       rw [← Lib.byteCells_append, Nat.zero_add, List.nil_append] at o1
       rw [Nat.zero_add]
       clear e0))
  rw [rounds_succ]
  go_wp2_with (first
    | (at_builtin
       refine wpList_append_rd _ rfl (.tmp 11) (.tmp 15) _ rfl w.heap.size 5 i0 _ 1 1 Try.underlying23 hi0 hz0 hz1 hz2 rfl Nat.one_pos R1 r1 (n0) (Lib.byteCells (l0)) rfl o1 B n1 c1 (Lib.byteCells l1) rfl (h1.keeps K1 (fun _ _ h => h)) (byteCells_one _) (by simp only [maxLen]; omega) (by omega) K1.size ?_
       intro R2 r2 w2 o2 hg2 hat2
       have K2 := K1.grown hg2 (fun k hk => .inr (o1.lt k (by rw [ownBlock_slice]; exact hk)).1)
       have e2 : w2.cell? ⟨g, 2, none⟩ = some (.slice C n2 c2) := (hW.keeps K2 (fun h => h)).cell 2
       rw [← Lib.byteCells_append] at o2
       clear e1))
  rw [rounds_succ]
  go_wp2_with (first
    | (at_builtin
       refine wpList_append_rd _ rfl (.tmp 11) (.tmp 15) _ rfl w.heap.size 5 i0 _ 1 1 Try.underlying23 hi0 hz0 hz1 hz2 rfl Nat.one_pos R2 r2 (n0 + n1) (Lib.byteCells (l0 ++ l1)) rfl o2 C n2 c2 (Lib.byteCells l2) rfl (h2.keeps K2 (fun _ _ h => h)) (byteCells_one _) (by simp only [maxLen]; omega) (by omega) K2.size ?_
       intro R3 r3 w3 o3 hg3 hat3
       have K3 := K2.grown hg3 (fun k hk => .inr (o2.lt k (by rw [ownBlock_slice]; exact hk)).1)
       have e3 : w3.cell? ⟨g, 3, none⟩ = some (.slice D n3 c3) := (hW.keeps K3 (fun h => h)).cell 3
       rw [← Lib.byteCells_append] at o3
       clear e2))
  rw [rounds_succ]
  go_wp2_with (first
    | (at_builtin
       refine wpList_append_rd _ rfl (.tmp 11) (.tmp 15) _ rfl w.heap.size 5 i0 _ 1 1 Try.underlying23 hi0 hz0 hz1 hz2 rfl Nat.one_pos R3 r3 (n0 + n1 + n2) (Lib.byteCells (l0 ++ l1 ++ l2)) rfl o3 D n3 c3 (Lib.byteCells l3) rfl (h3.keeps K3 (fun _ _ h => h)) (byteCells_one _) (by simp only [maxLen]; omega) (by omega) K3.size ?_
       intro R4 r4 w4 o4 hg4 hat4
       have K4 := K3.grown hg4 (fun k hk => .inr (o3.lt k (by rw [ownBlock_slice]; exact hk)).1)
       rw [← Lib.byteCells_append] at o4
       clear e3))
  rw [rounds_succ]
  go_wp2_with fail
  go_ret
  exact ⟨R4, r4, rfl, o4, K4, fun k hk => (o4.lt k (by rw [ownBlock_slice]; exact hk)).1⟩
end Go.Proofs.Ytfkokngjclaikaa
