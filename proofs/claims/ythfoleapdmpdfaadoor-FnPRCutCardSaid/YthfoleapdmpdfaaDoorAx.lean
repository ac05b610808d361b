/- prAwake: a varint put and got. Conditions: none. -/
import Derived.Test.YthfoleapdmpdfaaDoorAw
namespace Go.Proofs.YthfoleapdmpdfaaDoor
open Go.RowKit Go.Lib
set_option linter.unusedVariables false
def GotRow (w : World) (e : Ending) (w' : World) : Prop := ∃ G cg, e = .returned (.slice (some ⟨G, 0, none⟩) 1 cg) ∧ w'.ownsRow w.heap.size 34 4 (.slice (some ⟨G, 0, none⟩) 1 cg) 1 [.int .u64 300, .int .u64 0, .slice none 0 0, .bool false] ∧ Keeps (fun _ => False) w w'
set_option maxRecDepth 100000 in
set_option maxHeartbeats 4000000 in
theorem prGetOne (w : World) (a g c cc : Nat) (ha : Whole w a 5 #[.int .u8 172, .int .u8 2]) (hc : 2 ≤ c) (hg : Whole w g 28 #[.int .i64 15, .int .u64 0, .int .u64 0, .slice none 0 0]) :
    Calls Tryd.prog 10 #[.slice (some ⟨a, 0, none⟩) 2 c, .slice (some ⟨g, 0, none⟩) 1 cc] w fun e w' => GotRow w e w' := by
  obtain ⟨i0, hi0, hz0, hz1, hz2⟩ := info_parts infoGotE
  have hlt := hg.lt
  have HN := Lib.hid (newRdr w (some ⟨a, 0, none⟩) c [172, 2] (Rd.whole ha rfl rfl) hc (fun i hi => by simp [ob] at hi; subst hi; exact ha.lt))
  have HG := Lib.hid hg
  clear ha hg hc
  go_enter Tryd.func10, Tryd.ntmps10
  go_wp2_with fail
  refine HN.out.mono ?_
  rintro e w1 ⟨rfl, hR, K1, hs1⟩
  have hg1 := HG.out.keeps K1 (fun h => h)
  have c0 : w1.cell? ⟨g, 0, none⟩ = some (.int .i64 15) := hg1.cell 0
  have c1 : w1.cell? ⟨g, 1, none⟩ = some (.int .u64 0) := hg1.cell 1
  have c2 : w1.cell? ⟨g, 2, none⟩ = some (.int .u64 0) := hg1.cell 2
  have c3 : w1.cell? ⟨g, 3, none⟩ = some (.slice none 0 0) := hg1.cell 3
  have hl1 := hg1.lt
  have HR := Lib.hid hR
  have HK1 := Lib.hid K1
  have HS1 := Lib.hid hs1
  clear hR K1 hs1
  go_wp2_with fail
  refine wp_loop_rounds 2 ?_
  rw [rounds_succ]
  have K2 : Keeps (fun _ => False) w1 ((w1.alloc (.cells #[.int .i64 15, .int .u64 0, .int .u64 0, .slice none 0 0] 28)).alloc (.cells #[.int .u64 0, .int .u64 0, .slice none 0 0, .bool true] 34)) := ((Keeps.refl _ _).alloc _).alloc _
  have HG15 := Lib.hid (get15 _ w.heap.size (w.heap.size + 1) w.heap.size (ob (some ⟨a, 0, none⟩)) none (HR.out.new K2))
  have hq : Whole ((w1.alloc (.cells #[.int .i64 15, .int .u64 0, .int .u64 0, .slice none 0 0] 28)).alloc (.cells #[.int .u64 0, .int .u64 0, .slice none 0 0, .bool true] 34)) (w1.heap.size + 1) 34 #[.int .u64 0, .int .u64 0, .slice none 0 0, .bool true] := by
    have h := Whole.new (w1.alloc (.cells #[.int .i64 15, .int .u64 0, .int .u64 0, .slice none 0 0] 28)) 34 #[.int .u64 0, .int .u64 0, .slice none 0 0, .bool true]
    simp only [World.size_alloc] at h
    exact h
  have HQ := Lib.hid hq
  have HK2 := Lib.hid K2
  clear hq K2
  go_wp2_with fail
  refine HG15.out.mono ?_
  rintro e w4 ⟨rfl, K4⟩
  have h1 := HQ.out.keeps K4 (by
    have := HS1.out
    rintro (h | h | h)
    · omega
    · omega
    · cases h)
  have b0 : w4.cell? ⟨w1.heap.size + 1, 0, none⟩ = some (.int .u64 0) := h1.cell 0
  have b1 : w4.cell? ⟨w1.heap.size + 1, 1, none⟩ = some (.int .u64 0) := h1.cell 1
  have b2 : w4.cell? ⟨w1.heap.size + 1, 2, none⟩ = some (.slice none 0 0) := h1.cell 2
  have b3 : w4.cell? ⟨w1.heap.size + 1, 3, none⟩ = some (.bool true) := h1.cell 3
  have z10 : w4.frozen? ⟨w1.heap.size + 1, 0, none⟩ = false := h1.frozen 0
  have z11 : w4.frozen? ⟨w1.heap.size + 1, 1, none⟩ = false := h1.frozen 1
  have z12 : w4.frozen? ⟨w1.heap.size + 1, 2, none⟩ = false := h1.frozen 2
  have z13 : w4.frozen? ⟨w1.heap.size + 1, 3, none⟩ = false := h1.frozen 3
  have hl4 := h1.lt
  have k4 : Keeps (fun _ => False) w w4 := ((HK1.out.trans HK2.out (fun _ _ h => h)).mono (S' := fun i => w.heap.size ≤ i) (fun _ _ h => h.elim)).trans K4 (fun i hi h => by
    rcases h with h | h | h
    · omega
    · omega
    · cases h) |>.mono (fun i hi h => by omega)
  have k5 := (((k4.setCell (p := ⟨w1.heap.size + 1, 0, none⟩) (.inr (by show w.heap.size ≤ w1.heap.size + 1; have := HS1.out; omega)) (.int .u64 300)).setCell (p := ⟨w1.heap.size + 1, 1, none⟩) (.inr (by show w.heap.size ≤ w1.heap.size + 1; have := HS1.out; omega)) (.int .u64 0)).setCell (p := ⟨w1.heap.size + 1, 2, none⟩) (.inr (by show w.heap.size ≤ w1.heap.size + 1; have := HS1.out; omega)) (.slice none 0 0)).setCell (p := ⟨w1.heap.size + 1, 3, none⟩) (.inr (by show w.heap.size ≤ w1.heap.size + 1; have := HS1.out; omega)) (.bool false)
  have k6 := k5.alloc (.cells #[.int .u64 300, .int .u64 0, .slice none 0 0, .bool false] 34)
  have hsz : (World.heap ((((w4.setCell ⟨w1.heap.size + 1, 0, none⟩ (.int .u64 300)).setCell ⟨w1.heap.size + 1, 1, none⟩ (.int .u64 0)).setCell ⟨w1.heap.size + 1, 2, none⟩ (.slice none 0 0)).setCell ⟨w1.heap.size + 1, 3, none⟩ (.bool false))).size = w4.heap.size := by simp [World.setCell]
  have hrd : Rd (((((w4.setCell ⟨w1.heap.size + 1, 0, none⟩ (.int .u64 300)).setCell ⟨w1.heap.size + 1, 1, none⟩ (.int .u64 0)).setCell ⟨w1.heap.size + 1, 2, none⟩ (.slice none 0 0)).setCell ⟨w1.heap.size + 1, 3, none⟩ (.bool false)).alloc (.cells #[.int .u64 300, .int .u64 0, .slice none 0 0, .bool false] 34)) 4 (some ⟨w4.heap.size, 0, none⟩) 1 [.int .u64 300, .int .u64 0, .slice none 0 0, .bool false] := by
    have hw := Whole.new ((((w4.setCell ⟨w1.heap.size + 1, 0, none⟩ (.int .u64 300)).setCell ⟨w1.heap.size + 1, 1, none⟩ (.int .u64 0)).setCell ⟨w1.heap.size + 1, 2, none⟩ (.slice none 0 0)).setCell ⟨w1.heap.size + 1, 3, none⟩ (.bool false)) 34 #[.int .u64 300, .int .u64 0, .slice none 0 0, .bool false]
    rw [hsz] at hw
    exact ⟨rfl, fun _ => ⟨_, rfl, hw.lt, fun j x hx => by rw [add_lit', Nat.zero_add, hw.cell j, ← Array.getElem?_toList]; exact hx⟩⟩
  clear hsz
  go_wp2_with (at_builtin
               refine wpList_append_rd _ rfl (.tmp 27) (.tmp 29) _ rfl w.heap.size 34 i0 _ 4 48 Tryd.underlying29 hi0 hz0 hz1 hz2 rfl (by omega) none 0 0 [] rfl (World.ownsRow_nil _ _ _ _) (some ⟨w4.heap.size, 0, none⟩) 1 1 [.int .u64 300, .int .u64 0, .slice none 0 0, .bool false] rfl hrd (by intro u hu; rcases List.mem_cons.1 hu with rfl | hu; rfl; rcases List.mem_cons.1 hu with rfl | hu; rfl; rcases List.mem_cons.1 hu with rfl | hu; rfl; rw [List.mem_singleton.1 hu]; rfl) (by simp only [maxLen]; omega) (by omega) k6.size ?_
               intro G cg w7 o7 hg7 hat7
               have k7 := k6.grown hg7 (fun k hk => by cases hk))
  rw [rounds_succ]
  go_wp2_with fail
  go_ret
  obtain ⟨gg, rfl⟩ : ∃ gg, G = some ⟨gg, 0, none⟩ := by
    rcases o7.2 with ⟨hv, h0⟩ | ⟨g', cap, cur, hv, _⟩
    · omega
    · injection hv with hA
      exact ⟨_, hA⟩
  exact ⟨gg, cg, rfl, o7, k7⟩
set_option maxRecDepth 100000 in
set_option maxHeartbeats 4000000 in
theorem prAwake (w : World) :
    Calls Tryd.prog 12 #[] w fun e w' => e = .returned (.bool true) ∧ Keeps (fun _ => False) w w' := by
  have hU : Lib.uvarint 300 = [172, 2] := by rw [Lib.uvarint_big (by decide), Lib.uvarint_small (by decide)]; decide
  have K0 : Keeps (fun _ => False) w ((w.alloc (.cells #[.int .u8 172, .int .u8 2] 5)).alloc (.cells #[.int .i64 15, .int .u64 0, .int .u64 0, .slice none 0 0] 28)) := ((Keeps.refl _ _).alloc _).alloc _
  have ha := (Whole.new w 5 #[.int .u8 172, .int .u8 2]).alloc (.cells #[.int .i64 15, .int .u64 0, .int .u64 0, .slice none 0 0] 28)
  have hg := Whole.new (w.alloc (.cells #[.int .u8 172, .int .u8 2] 5)) 28 #[.int .i64 15, .int .u64 0, .int .u64 0, .slice none 0 0]
  simp only [World.size_alloc] at hg
  have HG := Lib.hid (prGetOne _ w.heap.size (w.heap.size + 1) 2 1 ha (by omega) hg)
  have HK0 := Lib.hid K0
  clear K0 ha hg
  go_enter Tryd.func12, Tryd.ntmps12
  go_wp2_with fail
  refine HG.out.mono ?_
  rintro e w1 ⟨G, cg, rfl, o1, K1⟩
  have HK1 := Lib.hid (HK0.out.trans K1 (fun _ _ h => h))
  have K2 := (Keeps.refl (fun _ => False) w1).alloc (.cells #[.int .i64 15, .int .u64 300, .int .u64 0, .slice none 0 0] 28)
  have HP := Lib.hid (prPutOne _ w1.heap.size 1 300 (by omega) (Whole.new w1 28 #[.int .i64 15, .int .u64 300, .int .u64 0, .slice none 0 0]))
  rw [hU] at HP
  have HO := Lib.hid o1
  have HK2 := Lib.hid K2
  clear o1 K1 K2
  go_wp2_with fail
  refine HP.out.mono ?_
  rintro e w3 ⟨A3, c3, rfl, o3, K3, _⟩
  have K4 := (Keeps.refl (fun _ => False) w3).alloc (.cells #[.int .u8 172, .int .u8 2] 5)
  have HE := Lib.hid (bytesEq (w3.alloc (.cells #[.int .u8 172, .int .u8 2] 5)) A3 (some ⟨w3.heap.size, 0, none⟩) 2 c3 2 2 [172, 2] [172, 2] ((Rd.own o3).keeps K4 (fun _ _ h => h)) (Rd.whole (Whole.new w3 5 #[.int .u8 172, .int .u8 2]) rfl rfl))
  have HK4 := Lib.hid (((HK1.out.trans HK2.out (fun _ _ h => h)).trans K3 (fun _ _ h => h)).trans K4 (fun _ _ h => h))
  obtain ⟨ad, e2, hb2, hcc⟩ := (Rd.own (own_keeps (own_keeps (own_keeps HO.out HK2.out (fun _ _ h => h)) K3 (fun _ _ h => h)) K4 (fun _ _ h => h))).2 (by omega)
  injection e2 with e2
  subst e2
  have d0 : (w3.alloc (.cells #[.int .u8 172, .int .u8 2] 5)).cell? ⟨G, 0, none⟩ = some (.int .u64 300) := by have := hcc 0 _ rfl; rwa [add_lit', Nat.zero_add] at this
  have d3 : (w3.alloc (.cells #[.int .u8 172, .int .u8 2] 5)).cell? ⟨G, 3, none⟩ = some (.bool false) := by have := hcc 3 _ rfl; rwa [add_lit', Nat.zero_add] at this
  clear hcc hb2 o3 K3 K4
  go_wp2_with fail
  refine HE.out.mono ?_
  rintro e w5 ⟨rfl, rfl⟩
  go_wp2_with fail
  go_ret
  exact ⟨rfl, HK4.out⟩
end Go.Proofs.YthfoleapdmpdfaaDoor
