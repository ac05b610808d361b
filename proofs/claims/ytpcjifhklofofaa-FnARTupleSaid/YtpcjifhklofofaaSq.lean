/- The rows of a column of arrays of strings, one by one. Conditions: sizes far below the machine's. -/
import Derived.Test.YtpcjifhklofofaaSr
import Derived.Test.YtpcjifhklofofaaArS
import Derived.Test.YtpcjifhklofofaaLf
namespace Go.Proofs.Ytpcjifhklofofaa
open Go.RowKit Go.Lib
set_option linter.unusedVariables false
theorem slBack (s : ByteArray) : (⟨(sl s).toArray⟩ : ByteArray) = s := by cases s; simp [sl]
theorem iCsRow : (Try.prog.info? 54).map (fun i => (i.methods.find? (·.name == "Row")).map (fun m => (m.path.toList.length, m.func))) = some (some (0, some (31, false))) := by kernel_rfl
theorem mCsRow {w : World} {gs : Nat} {x y : Value} (hW : Whole w gs 57 #[x, y]) (fuel : Nat) : (method (fuel + 1) 54 (.pointer (some ⟨gs, 0, none⟩)) "Row").run Try.prog w = .ok (31, .agg #[x, y]) w := by
  obtain ⟨i, m, h1, h2, h3, h4⟩ := method_row iCsRow
  exact method_val h1 h2 h3 h4 Try.underlying54 (run_loadVar_row (P := Try.prog) w gs 57 57 _ (0, 0) _ hW Try.underlying57 rfl infoCS)
def SRowRes (w : World) (X : List ByteArray) (e : Ending) (w' : World) : Prop := ∃ T ct, e = .returned (.slice T X.length ct) ∧ w'.ownsRow w.heap.size 9 1 (.slice T X.length ct) X.length (X.map Value.string) ∧ Keeps (fun _ => False) w w'
set_option maxRecDepth 100000 in
set_option maxHeartbeats 2000000 in
theorem saRowApp (w : World) (base b1 : Nat) (O A B : Option Addr) (n ko c d gs i s0 m : Nat) (X : List ByteArray) (L : List (List UInt8)) (ns : List Nat) (hcol : ColAt w base gs A c B d L) (hRO : w.ownsRow b1 53 1 (.slice O n ko) n (ns.map fun x : Nat => .int .u64 (x : Int))) (hi : i < n) (hn : n ≤ 100000) (hm : X.length = m) (hb : s0 + m ≤ 1000000)
    (hq1 : L.flatten.length ≤ 1000000000) (hq2 : L.length ≤ 1000000) (h1 : ns[i]? = some (s0 + m)) (h2 : 0 < i → ns[i - 1]? = some s0) (h3 : i = 0 → s0 = 0) (hX : ∀ (j : Nat) (x : ByteArray), X[j]? = some x → L[s0 + j]? = some (sl x)) :
    Calls Try.prog 42 #[.agg #[.slice O n ko, .iface 54 (.pointer (some ⟨gs, 0, none⟩))], .int .i64 (i : Int), .slice none 0 0] w fun e w' => SRowRes w X e w' := by
  obtain ⟨i0, hi0, hz0, hz1, hz2⟩ := info_parts infoStrE
  have K0 := (Keeps.refl (fun _ => False) w).alloc (.cells #[.slice O n ko, .iface 54 (.pointer (some ⟨gs, 0, none⟩))] 88)
  have hbx := Whole.new w 88 #[.slice O n ko, .iface 54 (.pointer (some ⟨gs, 0, none⟩))]
  have hcol1 := hcol.new K0
  have hRO1 := own_keeps hRO K0 (fun _ _ h => h)
  obtain ⟨og, cap, hv, hol, hoh⟩ := hRO1.form (by omega)
  injection hv with hv1 hv2 hv3
  subst hv1 hv3
  have hcell : (w.alloc (.cells #[.slice (some ⟨og, 0, none⟩) n ko, .iface 54 (.pointer (some ⟨gs, 0, none⟩))] 88)).cell? ⟨og, i, none⟩ = some (.int .u64 ((s0 + m : Nat) : Int)) := by rw [hRO1.cellAt i (by omega), List.getElem?_map, h1]; rfl
  have hprev : 0 < i → (w.alloc (.cells #[.slice (some ⟨og, 0, none⟩) n ko, .iface 54 (.pointer (some ⟨gs, 0, none⟩))] 88)).cell? ⟨og, i - 1, none⟩ = some (.int .u64 (s0 : Int)) := fun h0 => by rw [hRO1.cellAt (i - 1) (by omega), List.getElem?_map, h2 h0]; rfl
  clear hv2
  have b0 : (w.alloc (.cells #[.slice (some ⟨og, 0, none⟩) n ko, .iface 54 (.pointer (some ⟨gs, 0, none⟩))] 88)).cell? ⟨w.heap.size, 1, none⟩ = some (.iface 54 (.pointer (some ⟨gs, 0, none⟩))) := hbx.cell 1
  have q1 : IntKind.i64.wrap ((s0 + m : Nat) : Int) = ((s0 + m : Nat) : Int) := by rw [IntKind.wrap_i64]; omega
  have q2 : IntKind.i64.wrap (s0 : Int) = (s0 : Int) := by rw [IntKind.wrap_i64]; omega
  have q3 : IntKind.i64.wrap ((i : Int) - 1) = (i : Int) - 1 := by rw [IntKind.wrap_i64]; omega
  have HB := Lib.hid hcol1
  have HBX := Lib.hid hbx
  have HX := Lib.hid hX
  have HM := Lib.hid hm
  have HN1 := Lib.hid hq1
  have HN2 := Lib.hid hq2
  obtain ⟨F1, hF1⟩ : ∃ F1, L.flatten.length = F1 := ⟨_, rfl⟩
  obtain ⟨G1, hG1⟩ : ∃ G1, L.length = G1 := ⟨_, rfl⟩
  have HF1 := Lib.hid hF1
  have HG1 := Lib.hid hG1
  clear hF1 hG1
  have HK0 := Lib.hid K0
  have H3 := Lib.hid h3
  have HP := Lib.hid hprev
  clear hcol hRO hcol1 hRO1 hbx hX hm hq1 hq2 K0 h1 h2 h3 hprev
  obtain ⟨E1, hE1⟩ : ∃ E1 : Nat, E1 = s0 + m := ⟨_, rfl⟩
  rw [← hE1] at hcell q1 hb
  have HE1 := Lib.hid hE1
  clear hE1
  rcases Nat.eq_zero_or_pos i with rfl | h0
  · obtain rfl := H3.out rfl
    go_enter Try.func42, Try.ntmps42
    go_wp2_with fail
    go_loopw [2, 9] (fun v i wr => ∃ (k j : Nat) (T : Option Addr) (ct : Nat), k = 0 + j ∧ j ≤ m ∧ i = .int .i64 k ∧ v = .slice T j ct ∧ wr.ownsRow (w.heap.size + 1) 9 1 (.slice T j ct) j ((X.take j).map Value.string) ∧ Keeps (fun _ => False) (w.alloc (.cells #[.slice (some ⟨og, 0, none⟩) n ko, .iface 54 (.pointer (some ⟨gs, 0, none⟩))] 88)) wr) (fun _ i _ => E1 - (RowKit.intOf i).toNat)
    case atStart => exact ⟨0, 0, none, 0, rfl, Nat.zero_le _, rfl, rfl, World.ownsRow_nil _ (w.heap.size + 1) 9 1, Keeps.refl _ _⟩
    case round =>
      obtain ⟨k, j, T, ct, hk, hj, rfl, rfl, hown, hK⟩ := hrel
      have hsz := hK.size
      rw [World.size_alloc] at hsz
      by_cases hlt : j < m
      · have he := HE1.out
        have l1 : (k : Int) < (E1 : Int) := by omega
        have hj1 : j + 1 ≤ 1000001 := by omega
        obtain ⟨x, hx⟩ : ∃ x, X[j]? = some x := ⟨_, List.getElem?_eq_getElem (by rw [HM.out]; exact hlt)⟩
        have HT := Lib.hid (show (X.take (j + 1)).map Value.string = (X.take j).map Value.string ++ [.string x] by rw [List.take_add_one, hx]; simp)
        have hQx := HX.out j x hx
        rw [← hk] at hQx
        have hcw := HB.out.new hK
        have b1w : wr.cell? ⟨w.heap.size, 1, none⟩ = some (.iface 54 (.pointer (some ⟨gs, 0, none⟩))) := (HBX.out.keeps hK (fun h => h)).cell 1
        have hblk := hcw.blk
        have HNR := Lib.hid (strRow wr base gs A c B d L k (sl x) hcw hQx HN1.out HN2.out)
        rw [slBack, HF1.out, HG1.out] at HNR
        rw [HF1.out, HG1.out] at hblk
        have hme := fun fuel => mCsRow hblk fuel
        have HJ := Lib.hid hk
        clear hx hQx hcw hblk hk he
        go_wp2_with fail
        refine HNR.out.mono ?_
        rintro e w2 ⟨rfl, K2⟩
        have hK2a := hK.trans K2 (fun _ _ h => h)
        have hKa := hK2a.alloc (.cells #[.string x] 9)
        have howna := own_keeps (own_keeps hown K2 (fun _ _ h => h)) ((Keeps.refl (fun _ => False) w2).alloc (.cells #[.string x] 9)) (fun _ _ h => h)
        clear K2 hme
        go_wp2_with (at_builtin
                     refine wpList_append_rd _ rfl (.tmp 31) (.tmp 36) _ rfl (w.heap.size + 1) 9 i0 _ 1 16 Try.underlying22 hi0 hz0 hz1 hz2 rfl Nat.one_pos T ct j _ rfl howna (some ⟨w2.heap.size, 0, none⟩) 1 1 [.string x] rfl (rd_one w2 9 _) (one_val _ rfl) (by simp only [maxLen]; omega) (by omega) (by have := hKa.size; rw [World.size_alloc] at this; omega) ?_
                     intro A2 c2 w3 hown2 hg2 hat2)
        have hK2 := hKa.grown hg2 (fun i hi => .inr (by rw [World.size_alloc]; exact (howna.lt i (by rw [ownBlock_slice]; exact hi)).1))
        rw [← HT.out] at hown2
        go_roundw
        case rel => exact ⟨k + 1, j + 1, A2, c2, by have := HJ.out; omega, by omega, by go_num, rfl, hown2, hK2⟩
        case measure => (first | (simp [RowKit.intOf]; done) | (simp [RowKit.intOf]; omega))
      · have hjm : j = m := by omega
        subst hjm
        have he := HE1.out
        have l1 : ¬ (k : Int) < (E1 : Int) := by omega
        have e : X.take j = X := List.take_of_length_le (by rw [HM.out]; exact Nat.le_refl _)
        rw [e] at hown
        have HM2 := HM.out
        clear hk he
        go_wp2_with fail
        go_ret
        subst HM2
        exact ⟨T, ct, rfl, own_base_le hown (by omega), HK0.out.trans hK (fun _ _ h => h)⟩
  · have hpc := HP.out h0
    have g1 : (0 : Int) < (i : Int) := by omega
    have g2 : ((i : Int) - 1).toNat = i - 1 := by omega
    have g3 : (0 : Int) ≤ (i : Int) - 1 := by omega
    have g4 : (i : Int) - 1 < (n : Int) := by omega
    go_enter Try.func42, Try.ntmps42
    go_wp2_with fail
    go_loopw [2, 9] (fun v i wr => ∃ (k j : Nat) (T : Option Addr) (ct : Nat), k = s0 + j ∧ j ≤ m ∧ i = .int .i64 k ∧ v = .slice T j ct ∧ wr.ownsRow (w.heap.size + 1) 9 1 (.slice T j ct) j ((X.take j).map Value.string) ∧ Keeps (fun _ => False) (w.alloc (.cells #[.slice (some ⟨og, 0, none⟩) n ko, .iface 54 (.pointer (some ⟨gs, 0, none⟩))] 88)) wr) (fun _ i _ => E1 - (RowKit.intOf i).toNat)
    case atStart => exact ⟨s0, 0, none, 0, rfl, Nat.zero_le _, rfl, rfl, World.ownsRow_nil _ (w.heap.size + 1) 9 1, Keeps.refl _ _⟩
    case round =>
      obtain ⟨k, j, T, ct, hk, hj, rfl, rfl, hown, hK⟩ := hrel
      have hsz := hK.size
      rw [World.size_alloc] at hsz
      by_cases hlt : j < m
      · have he := HE1.out
        have l1 : (k : Int) < (E1 : Int) := by omega
        have hj1 : j + 1 ≤ 1000001 := by omega
        obtain ⟨x, hx⟩ : ∃ x, X[j]? = some x := ⟨_, List.getElem?_eq_getElem (by rw [HM.out]; exact hlt)⟩
        have HT := Lib.hid (show (X.take (j + 1)).map Value.string = (X.take j).map Value.string ++ [.string x] by rw [List.take_add_one, hx]; simp)
        have hQx := HX.out j x hx
        rw [← hk] at hQx
        have hcw := HB.out.new hK
        have b1w : wr.cell? ⟨w.heap.size, 1, none⟩ = some (.iface 54 (.pointer (some ⟨gs, 0, none⟩))) := (HBX.out.keeps hK (fun h => h)).cell 1
        have hblk := hcw.blk
        have HNR := Lib.hid (strRow wr base gs A c B d L k (sl x) hcw hQx HN1.out HN2.out)
        rw [slBack, HF1.out, HG1.out] at HNR
        rw [HF1.out, HG1.out] at hblk
        have hme := fun fuel => mCsRow hblk fuel
        have HJ := Lib.hid hk
        clear hx hQx hcw hblk hk he
        go_wp2_with fail
        refine HNR.out.mono ?_
        rintro e w2 ⟨rfl, K2⟩
        have hK2a := hK.trans K2 (fun _ _ h => h)
        have hKa := hK2a.alloc (.cells #[.string x] 9)
        have howna := own_keeps (own_keeps hown K2 (fun _ _ h => h)) ((Keeps.refl (fun _ => False) w2).alloc (.cells #[.string x] 9)) (fun _ _ h => h)
        clear K2 hme
        go_wp2_with (at_builtin
                     refine wpList_append_rd _ rfl (.tmp 31) (.tmp 36) _ rfl (w.heap.size + 1) 9 i0 _ 1 16 Try.underlying22 hi0 hz0 hz1 hz2 rfl Nat.one_pos T ct j _ rfl howna (some ⟨w2.heap.size, 0, none⟩) 1 1 [.string x] rfl (rd_one w2 9 _) (one_val _ rfl) (by simp only [maxLen]; omega) (by omega) (by have := hKa.size; rw [World.size_alloc] at this; omega) ?_
                     intro A2 c2 w3 hown2 hg2 hat2)
        have hK2 := hKa.grown hg2 (fun i hi => .inr (by rw [World.size_alloc]; exact (howna.lt i (by rw [ownBlock_slice]; exact hi)).1))
        rw [← HT.out] at hown2
        go_roundw
        case rel => exact ⟨k + 1, j + 1, A2, c2, by have := HJ.out; omega, by omega, by go_num, rfl, hown2, hK2⟩
        case measure => (first | (simp [RowKit.intOf]; done) | (simp [RowKit.intOf]; omega))
      · have hjm : j = m := by omega
        subst hjm
        have he := HE1.out
        have l1 : ¬ (k : Int) < (E1 : Int) := by omega
        have e : X.take j = X := List.take_of_length_le (by rw [HM.out]; exact Nat.le_refl _)
        rw [e] at hown
        have HM2 := HM.out
        clear hk he
        go_wp2_with fail
        go_ret
        subst HM2
        exact ⟨T, ct, rfl, own_base_le hown (by omega), HK0.out.trans hK (fun _ _ h => h)⟩
set_option maxRecDepth 10000 in
theorem saRow (w : World) (base ga gs : Nat) (O : Option Addr) (ko : Nat) (A : Option Addr) (c : Nat) (B : Option Addr) (d : Nat) (RR : List (List ByteArray)) (k : Nat) (X : List ByteArray) (hC : ArrAt w base ga gs O ko A c B d RR) (hX : RR[k]? = some X) (hn : RR.length ≤ 100000) (hf : RR.flatten.length ≤ 1000000) (hs : (RR.flatten.map sl).flatten.length ≤ 1000000000) :
    Calls Try.prog 33 #[.agg #[.slice O RR.length ko, .iface 54 (.pointer (some ⟨gs, 0, none⟩))], .int .i64 (k : Int)] w fun e w' => SRowRes w X e w' := by
  have hk : k < RR.length := (List.getElem?_eq_some_iff.1 hX).1
  have K0 := (Keeps.refl (fun _ => False) w).alloc (.cells #[.slice O RR.length ko, .iface 54 (.pointer (some ⟨gs, 0, none⟩))] 88)
  have hC1 := hC.new K0
  have hta : (RR.take (k + 1)) = RR.take k ++ [X] := by rw [List.take_add_one, hX]; rfl
  have hoff := hC1.off
  rw [offVals] at hoff
  have HA := Lib.hid (saRowApp _ base base O A B RR.length ko c d gs k ((RR.take k).map List.length).sum X.length X (RR.flatten.map sl) (ends 0 (RR.map List.length)) hC1.col hoff hk hn rfl (by have := flat_end hX; omega) hs (by rw [List.length_map]; omega) (by
      rw [ends_get _ 0 k (by rw [List.length_map]; exact hk), ← List.map_take, hta, List.map_append, List.sum_append, Nat.zero_add]; simp) (fun h0 => by
      rw [ends_get _ 0 (k - 1) (by rw [List.length_map]; omega), ← List.map_take, Nat.zero_add, Nat.sub_add_cancel h0]) (fun h0 => by subst h0; simp) (fun j x hx => by rw [List.getElem?_map, flat_at RR k j X x hX hx]; rfl))
  have HK := Lib.hid K0
  clear hC hC1 hX hta K0 hoff
  generalize RR.length = n at *
  go_enter Try.func33, Try.ntmps33
  go_wp2_with fail
  refine HA.out.mono ?_
  rintro e w2 ⟨T, ct, rfl, ho, K2⟩
  have HO := Lib.hid ho
  have HK2 := Lib.hid K2
  clear ho K2
  go_wp2_with fail
  go_ret
  exact ⟨T, ct, rfl, own_base_le HO.out (by rw [World.size_alloc]; omega), HK.out.trans HK2.out (fun _ _ h => h)⟩
end Go.Proofs.Ytpcjifhklofofaa
