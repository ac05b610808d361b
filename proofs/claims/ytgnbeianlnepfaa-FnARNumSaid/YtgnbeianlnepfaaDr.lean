/- The rows of a column of arrays of numbers, one by one. Conditions: sizes far below the machine's. -/
import Derived.Test.YtgnbeianlnepfaaDa
namespace Go.Proofs.Ytgnbeianlnepfaa
open Go.RowKit Go.Lib
set_option linter.unusedVariables false
theorem iNmRow : (Try.prog.info? 68).map (fun i => (i.methods.find? (·.name == "Row")).map (fun m => (m.path.toList.length, m.func))) = some (some (0, some (40, false))) := by kernel_rfl
theorem iNaRow : (Try.prog.info? 90).map (fun i => (i.methods.find? (·.name == "Row")).map (fun m => (m.path.toList.length, m.func))) = some (some (0, some (120, false))) := by kernel_rfl
theorem iNaRows : (Try.prog.info? 90).map (fun i => (i.methods.find? (·.name == "Rows")).map (fun m => (m.path.toList.length, m.func))) = some (some (0, some (122, false))) := by kernel_rfl
theorem iNaDec : (Try.prog.info? 90).map (fun i => (i.methods.find? (·.name == "DecodeColumn")).map (fun m => (m.path.toList.length, m.func))) = some (some (0, some (116, true))) := by kernel_rfl

theorem mNmRow {w : World} {gs : Nat} {x : Value} (hW : Whole w gs 69 #[x]) (fuel : Nat) : (method (fuel + 1) 68 (.pointer (some ⟨gs, 0, none⟩)) "Row").run Try.prog w = .ok (40, x) w := by
  obtain ⟨i, m, h1, h2, h3, h4⟩ := method_row iNmRow
  exact method_val h1 h2 h3 h4 Try.underlying68 (by have h0 : w.cell? ⟨gs, 0, none⟩ = some x := hW.cell 0; go_simp)
theorem mNaDec (w : World) (g : Nat) (fuel : Nat) : (method (fuel + 1) 90 (.pointer (some ⟨g, 0, none⟩)) "DecodeColumn").run Try.prog w = .ok (116, .pointer (some ⟨g, 0, none⟩)) w := by
  obtain ⟨i, m, h1, h2, h3, h4⟩ := method_row iNaDec
  exact method_ptr h1 h2 h3 h4 Try.underlying90
theorem mNaRow {w : World} {ga : Nat} {x y : Value} (hW : Whole w ga 130 #[x, y]) (fuel : Nat) : (method (fuel + 1) 90 (.pointer (some ⟨ga, 0, none⟩)) "Row").run Try.prog w = .ok (120, .agg #[x, y]) w := by
  obtain ⟨i, m, h1, h2, h3, h4⟩ := method_row iNaRow
  exact method_val h1 h2 h3 h4 Try.underlying90 (run_loadVar_row (P := Try.prog) w ga 130 130 _ (0, 0) _ hW Try.underlying130 rfl infoCNa)
theorem mNaRows {w : World} {ga : Nat} {x y : Value} (hW : Whole w ga 130 #[x, y]) (fuel : Nat) : (method (fuel + 1) 90 (.pointer (some ⟨ga, 0, none⟩)) "Rows").run Try.prog w = .ok (122, .agg #[x, y]) w := by
  obtain ⟨i, m, h1, h2, h3, h4⟩ := method_row iNaRows
  exact method_val h1 h2 h3 h4 Try.underlying90 (run_loadVar_row (P := Try.prog) w ga 130 130 _ (0, 0) _ hW Try.underlying130 rfl infoCNa)
set_option maxRecDepth 10000 in
theorem numRow (w : World) (A : Option Addr) (f c i x : Nat) (Q : List Nat) (hR : Rd w 1 A f (nv Q)) (hi : i < f) (hx : Q[i]? = some x) :
    Calls Try.prog 40 #[.slice A f c, .int .i64 (i : Int)] w fun e w' => e = .returned (.int .u32 (x : Int)) ∧ w = w' := by
  obtain ⟨ad, u, rfl, hb, hu, hcell⟩ := hR.at' hi
  have hu' : u = .int .u32 (x : Int) := by
    rw [nv, List.getElem?_map, hx] at hu
    exact (Option.some.inj hu).symm
  subst hu'
  clear hu hR hx
  go_enter Try.func40, Try.ntmps40
  go_wp2_with fail
  go_ret
  exact ⟨rfl, rfl⟩
set_option maxRecDepth 10000 in
theorem uRows (w : World) (O : Option Addr) (n ko : Nat) : Calls Try.prog 106 #[.slice O n ko] w fun e w' => e = .returned (.int .i64 (n : Int)) ∧ Keeps (fun _ => False) w w' := by
  go_enter Try.func106, Try.ntmps106
  go_wp2
  go_ret
  exact ⟨rfl, Keeps.refl _ _⟩
set_option maxRecDepth 10000 in
theorem naRows (w : World) (O : Option Addr) (n ko : Nat) (v : Value) : Calls Try.prog 122 #[.agg #[.slice O n ko, v]] w fun e w' => e = .returned (.int .i64 (n : Int)) ∧ Keeps (fun _ => False) w w' := by
  have K0 := Lib.hid ((Keeps.refl (fun _ => False) w).alloc (.cells #[.slice O n ko, v] 130))
  have HU := Lib.hid (fun w => uRows w O n ko)
  go_enter Try.func122, Try.ntmps122
  go_wp2_with fail
  refine (HU.out _).mono ?_
  rintro e w1 ⟨rfl, K1⟩
  have HK1 := Lib.hid (K0.out.trans K1 (fun _ _ h => h))
  clear K1
  go_wp2_with fail
  go_ret
  exact ⟨rfl, HK1.out⟩
def RowRes (w : World) (X : List Nat) (e : Ending) (w' : World) : Prop := ∃ T ct, e = .returned (.slice T X.length ct) ∧ w'.ownsRow w.heap.size 30 1 (.slice T X.length ct) X.length (nv X) ∧ Keeps (fun _ => False) w w'
set_option maxRecDepth 100000 in
set_option maxHeartbeats 2000000 in
theorem naRowApp (w : World) (O A : Option Addr) (n ko f c gs i s0 m b1 : Nat) (X Q : List Nat) (ns : List Nat) (hblk : Whole w gs 69 #[.slice A f c]) (hRO : w.ownsRow b1 63 1 (.slice O n ko) n (ns.map fun x : Nat => .int .u64 (x : Int))) (hRA : Rd w 1 A f (nv Q)) (hi : i < n) (hn : n ≤ 100000) (hfQ : Q.length = f) (hm : X.length = m) (hb : s0 + m ≤ 1000000)
    (h1 : ns[i]? = some (s0 + m)) (h2 : 0 < i → ns[i - 1]? = some s0) (h3 : i = 0 → s0 = 0) (hX : ∀ (j : Nat) (x : Nat), X[j]? = some x → Q[s0 + j]? = some x) :
    Calls Try.prog 121 #[.agg #[.slice O n ko, .iface 68 (.pointer (some ⟨gs, 0, none⟩))], .int .i64 (i : Int), .slice none 0 0] w fun e w' => RowRes w X e w' := by
  obtain ⟨i0, hi0, hz0, hz1, hz2⟩ := info_parts infoN
  have K0 := (Keeps.refl (fun _ => False) w).alloc (.cells #[.slice O n ko, .iface 68 (.pointer (some ⟨gs, 0, none⟩))] 130)
  have hbx := Whole.new w 130 #[.slice O n ko, .iface 68 (.pointer (some ⟨gs, 0, none⟩))]
  have hblk1 := hblk.keeps K0 (fun h => h)
  have hRO1 := own_keeps hRO K0 (fun _ _ h => h)
  have hRA1 := hRA.keeps K0 (fun _ _ h => h)
  obtain ⟨og, cap, hv, hol, hoh⟩ := hRO1.form (by omega)
  injection hv with hv1 hv2 hv3
  subst hv1 hv3
  have hcell : (w.alloc (.cells #[.slice (some ⟨og, 0, none⟩) n ko, .iface 68 (.pointer (some ⟨gs, 0, none⟩))] 130)).cell? ⟨og, i, none⟩ = some (.int .u64 ((s0 + m : Nat) : Int)) := by rw [hRO1.cellAt i (by omega), List.getElem?_map, h1]; rfl
  have hprev : 0 < i → (w.alloc (.cells #[.slice (some ⟨og, 0, none⟩) n ko, .iface 68 (.pointer (some ⟨gs, 0, none⟩))] 130)).cell? ⟨og, i - 1, none⟩ = some (.int .u64 (s0 : Int)) := fun h0 => by rw [hRO1.cellAt (i - 1) (by omega), List.getElem?_map, h2 h0]; rfl
  clear hv2
  have b0 : (w.alloc (.cells #[.slice (some ⟨og, 0, none⟩) n ko, .iface 68 (.pointer (some ⟨gs, 0, none⟩))] 130)).cell? ⟨w.heap.size, 1, none⟩ = some (.iface 68 (.pointer (some ⟨gs, 0, none⟩))) := hbx.cell 1
  have q1 : IntKind.i64.wrap ((s0 + m : Nat) : Int) = ((s0 + m : Nat) : Int) := by rw [IntKind.wrap_i64]; omega
  have q2 : IntKind.i64.wrap (s0 : Int) = (s0 : Int) := by rw [IntKind.wrap_i64]; omega
  have q3 : IntKind.i64.wrap ((i : Int) - 1) = (i : Int) - 1 := by rw [IntKind.wrap_i64]; omega
  have HB := Lib.hid hblk1
  have HRA := Lib.hid hRA1
  have HBX := Lib.hid hbx
  have HX := Lib.hid hX
  have HM := Lib.hid hm
  have HFQ := Lib.hid hfQ
  have HK0 := Lib.hid K0
  have H3 := Lib.hid h3
  have HP := Lib.hid hprev
  clear hblk hRO hRA hblk1 hRO1 hRA1 hbx hX hm hfQ K0 h1 h2 h3 hprev
  obtain ⟨E1, hE1⟩ : ∃ E1 : Nat, E1 = s0 + m := ⟨_, rfl⟩
  rw [← hE1] at hcell q1 hb
  have HE1 := Lib.hid hE1
  clear hE1
  rcases Nat.eq_zero_or_pos i with rfl | h0
  · obtain rfl := H3.out rfl
    go_enter Try.func121, Try.ntmps121
    go_wp2_with fail
    go_loopw [2, 9] (fun v i wr => ∃ (k j : Nat) (T : Option Addr) (ct : Nat), k = 0 + j ∧ j ≤ m ∧ i = .int .i64 k ∧ v = .slice T j ct ∧ wr.ownsRow (w.heap.size + 1) 30 1 (.slice T j ct) j (nv (X.take j)) ∧ Keeps (fun _ => False) (w.alloc (.cells #[.slice (some ⟨og, 0, none⟩) n ko, .iface 68 (.pointer (some ⟨gs, 0, none⟩))] 130)) wr) (fun _ i _ => E1 - (RowKit.intOf i).toNat)
    case atStart => exact ⟨0, 0, none, 0, rfl, Nat.zero_le _, rfl, rfl, World.ownsRow_nil _ (w.heap.size + 1) 30 1, Keeps.refl _ _⟩
    case round =>
      obtain ⟨k, j, T, ct, hk, hj, rfl, rfl, hown, hK⟩ := hrel
      have hsz := hK.size
      rw [World.size_alloc] at hsz
      by_cases hlt : j < m
      · have he := HE1.out
        have l1 : (k : Int) < (E1 : Int) := by omega
        have hj1 : j + 1 ≤ 1000001 := by omega
        obtain ⟨x, hx⟩ : ∃ x, X[j]? = some x := ⟨_, List.getElem?_eq_getElem (by rw [HM.out]; exact hlt)⟩
        have HT := Lib.hid (show nv (X.take (j + 1)) = nv (X.take j) ++ [.int .u32 (x : Int)] by rw [List.take_add_one, hx]; simp [nv])
        have hQx := HX.out j x hx
        rw [← hk] at hQx
        have hbw := HB.out.keeps hK (fun h => h)
        have hRw := HRA.out.keeps hK (fun _ _ h => h)
        have b1w : wr.cell? ⟨w.heap.size, 1, none⟩ = some (.iface 68 (.pointer (some ⟨gs, 0, none⟩))) := (HBX.out.keeps hK (fun h => h)).cell 1
        have hme := fun fuel => mNmRow hbw fuel
        have HNR := Lib.hid (numRow wr A f c k x Q hRw (by rw [← HFQ.out]; exact (List.getElem?_eq_some_iff.1 hQx).1) hQx)
        have hKa := hK.alloc (.cells #[.int .u32 (x : Int)] 30)
        have howna := own_keeps hown ((Keeps.refl (fun _ => False) wr).alloc (.cells #[.int .u32 (x : Int)] 30)) (fun _ _ h => h)
        have HJ := Lib.hid hk
        clear hx hQx hbw hRw hk he
        go_wp2_with fail
        refine HNR.out.mono ?_
        rintro e w2 ⟨rfl, rfl⟩
        go_wp2_with (at_builtin
                     refine wpList_append_rd _ rfl (.tmp 31) (.tmp 36) _ rfl (w.heap.size + 1) 30 i0 _ 1 4 Try.underlying23 hi0 hz0 hz1 hz2 rfl Nat.one_pos T ct j _ rfl howna (some ⟨wr.heap.size, 0, none⟩) 1 1 [.int .u32 (x : Int)] rfl (rd_one wr 30 _) (one_val _ rfl) (by simp only [maxLen]; omega) (by omega) (by have := hKa.size; rw [World.size_alloc] at this; omega) ?_
                     intro A2 c2 w2 hown2 hg2 hat2)
        have hK2 := hKa.grown hg2 (fun i hi => .inr (by rw [World.size_alloc]; exact (howna.lt i (by rw [ownBlock_slice]; exact hi)).1))
        rw [← HT.out] at hown2
        go_roundw
        case rel => exact ⟨k + 1, j + 1, A2, c2, by have := HJ.out; omega, by omega, by go_num, rfl, hown2, hK2⟩
        case measure => (first | (simp [RowKit.intOf]; done) | (simp [RowKit.intOf]; omega))
      · have hjm : j = m := by omega
        subst hjm
        have he := HE1.out
        have l1 : ¬ (k : Int) < (E1 : Int) := by omega
        have e : X.take j = X := List.take_of_length_le (by rw [HM.out]; exact Nat.le_refl _)
        rw [e] at hown
        have HM2 := HM.out
        clear hk he
        go_wp2_with fail
        go_ret
        subst HM2
        exact ⟨T, ct, rfl, own_base_le hown (by omega), HK0.out.trans hK (fun _ _ h => h)⟩
  · have hpc := HP.out h0
    have g1 : (0 : Int) < (i : Int) := by omega
    have g2 : ((i : Int) - 1).toNat = i - 1 := by omega
    have g3 : (0 : Int) ≤ (i : Int) - 1 := by omega
    have g4 : (i : Int) - 1 < (n : Int) := by omega
    go_enter Try.func121, Try.ntmps121
    go_wp2_with fail
    go_loopw [2, 9] (fun v i wr => ∃ (k j : Nat) (T : Option Addr) (ct : Nat), k = s0 + j ∧ j ≤ m ∧ i = .int .i64 k ∧ v = .slice T j ct ∧ wr.ownsRow (w.heap.size + 1) 30 1 (.slice T j ct) j (nv (X.take j)) ∧ Keeps (fun _ => False) (w.alloc (.cells #[.slice (some ⟨og, 0, none⟩) n ko, .iface 68 (.pointer (some ⟨gs, 0, none⟩))] 130)) wr) (fun _ i _ => E1 - (RowKit.intOf i).toNat)
    case atStart => exact ⟨s0, 0, none, 0, rfl, Nat.zero_le _, rfl, rfl, World.ownsRow_nil _ (w.heap.size + 1) 30 1, Keeps.refl _ _⟩
    case round =>
      obtain ⟨k, j, T, ct, hk, hj, rfl, rfl, hown, hK⟩ := hrel
      have hsz := hK.size
      rw [World.size_alloc] at hsz
      by_cases hlt : j < m
      · have he := HE1.out
        have l1 : (k : Int) < (E1 : Int) := by omega
        have hj1 : j + 1 ≤ 1000001 := by omega
        obtain ⟨x, hx⟩ : ∃ x, X[j]? = some x := ⟨_, List.getElem?_eq_getElem (by rw [HM.out]; exact hlt)⟩
        have HT := Lib.hid (show nv (X.take (j + 1)) = nv (X.take j) ++ [.int .u32 (x : Int)] by rw [List.take_add_one, hx]; simp [nv])
        have hQx := HX.out j x hx
        rw [← hk] at hQx
        have hbw := HB.out.keeps hK (fun h => h)
        have hRw := HRA.out.keeps hK (fun _ _ h => h)
        have b1w : wr.cell? ⟨w.heap.size, 1, none⟩ = some (.iface 68 (.pointer (some ⟨gs, 0, none⟩))) := (HBX.out.keeps hK (fun h => h)).cell 1
        have hme := fun fuel => mNmRow hbw fuel
        have HNR := Lib.hid (numRow wr A f c k x Q hRw (by rw [← HFQ.out]; exact (List.getElem?_eq_some_iff.1 hQx).1) hQx)
        have hKa := hK.alloc (.cells #[.int .u32 (x : Int)] 30)
        have howna := own_keeps hown ((Keeps.refl (fun _ => False) wr).alloc (.cells #[.int .u32 (x : Int)] 30)) (fun _ _ h => h)
        have HJ := Lib.hid hk
        clear hx hQx hbw hRw hk he
        go_wp2_with fail
        refine HNR.out.mono ?_
        rintro e w2 ⟨rfl, rfl⟩
        go_wp2_with (at_builtin
                     refine wpList_append_rd _ rfl (.tmp 31) (.tmp 36) _ rfl (w.heap.size + 1) 30 i0 _ 1 4 Try.underlying23 hi0 hz0 hz1 hz2 rfl Nat.one_pos T ct j _ rfl howna (some ⟨wr.heap.size, 0, none⟩) 1 1 [.int .u32 (x : Int)] rfl (rd_one wr 30 _) (one_val _ rfl) (by simp only [maxLen]; omega) (by omega) (by have := hKa.size; rw [World.size_alloc] at this; omega) ?_
                     intro A2 c2 w2 hown2 hg2 hat2)
        have hK2 := hKa.grown hg2 (fun i hi => .inr (by rw [World.size_alloc]; exact (howna.lt i (by rw [ownBlock_slice]; exact hi)).1))
        rw [← HT.out] at hown2
        go_roundw
        case rel => exact ⟨k + 1, j + 1, A2, c2, by have := HJ.out; omega, by omega, by go_num, rfl, hown2, hK2⟩
        case measure => (first | (simp [RowKit.intOf]; done) | (simp [RowKit.intOf]; omega))
      · have hjm : j = m := by omega
        subst hjm
        have he := HE1.out
        have l1 : ¬ (k : Int) < (E1 : Int) := by omega
        have e : X.take j = X := List.take_of_length_le (by rw [HM.out]; exact Nat.le_refl _)
        rw [e] at hown
        have HM2 := HM.out
        clear hk he
        go_wp2_with fail
        go_ret
        subst HM2
        exact ⟨T, ct, rfl, own_base_le hown (by omega), HK0.out.trans hK (fun _ _ h => h)⟩
end Go.Proofs.Ytgnbeianlnepfaa
