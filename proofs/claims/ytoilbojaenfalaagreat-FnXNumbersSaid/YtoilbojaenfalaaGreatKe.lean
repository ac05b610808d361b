/- All rows of a column of numbers. Conditions: sizes far below the machine's. -/
import Derived.Test.YtoilbojaenfalaaGreatKd
namespace Go.Proofs.YtoilbojaenfalaaGreat
open Go.RowKit Go.Lib
set_option linter.unusedVariables false
def rowN (x : Nat) : List Value := [.int .u64 (x : Int), .int .u64 0, .int .u64 0, .int .u64 0]
theorem rowsN_snoc {xs : List Nat} {k x : Nat} (h : xs[k]? = some x) : ((xs.take k).map rowN).flatten ++ [.int .u64 (x : Int), .int .u64 0, .int .u64 0, .int .u64 0] = ((xs.take (k + 1)).map rowN).flatten := by
  rw [List.take_add_one, h]; simp [rowN]
theorem Rd.whole4 {w : World} {g : Nat} {t : TypeId} {a b c d : Value} (h : Whole w g t #[a, b, c, d]) : Rd w 4 (some ⟨g, 0, none⟩) 1 [a, b, c, d] :=
  ⟨rfl, fun _ => ⟨_, rfl, h.lt, fun j u hu => by rw [add_lit', Nat.zero_add, h.cell j, ← Array.getElem?_toList]; exact hu⟩⟩
theorem infoR4 : (Tryz.prog.info? 29).map (fun i => (i.zero, i.size, i.bytes)) = some (some (.agg #[.int .u64 0, .int .u64 0, .int .u64 0, .int .u64 0]), 4, 32) := by kernel_rfl
theorem oneN (x : Nat) : ∀ u ∈ [Value.int .u64 (x : Int), .int .u64 0, .int .u64 0, .int .u64 0], u.oneCell' = true := by
  intro u hu
  simp only [List.mem_cons, List.not_mem_nil, or_false] at hu
  rcases hu with rfl | rfl | rfl | rfl <;> rfl
theorem iKAt8 : (Tryz.prog.info? 135).map (fun i => (i.methods.find? (·.name == "given.example/pub-clapboard/impl.at")).map (fun m => (m.path.toList.length, m.func))) = some (some (0, some (218, false))) := by kernel_rfl
theorem mKAt8 (w : World) (g : Nat) (fuel : Nat) : (method (fuel + 1) 135 (.agg #[.iface 127 (.pointer (some ⟨g, 0, none⟩)), .func (.func 35) #[] #[], .func (.func 36) #[] #[]]) "given.example/pub-clapboard/impl.at").run Tryz.prog w = .ok (218, .agg #[.iface 127 (.pointer (some ⟨g, 0, none⟩)), .func (.func 35) #[] #[], .func (.func 36) #[] #[]]) w := by
  obtain ⟨i, m, h1, h2, h3, h4⟩ := method_row iKAt8
  exact method_self h1 h2 h3 h4 Tryz.underlying135
theorem iKRows8 : (Tryz.prog.info? 127).map (fun i => (i.methods.find? (·.name == "Rows")).map (fun m => (m.path.toList.length, m.func))) = some (some (0, some (213, false))) := by kernel_rfl
theorem mKRows8 {w : World} {g : Nat} {x : Value} (hW : Whole w g 129 #[x]) (fuel : Nat) : (method (fuel + 1) 127 (.pointer (some ⟨g, 0, none⟩)) "Rows").run Tryz.prog w = .ok (213, x) w := by
  obtain ⟨i, m, h1, h2, h3, h4⟩ := method_row iKRows8
  exact method_val h1 h2 h3 h4 Tryz.underlying127 (by have h0 : w.cell? ⟨g, 0, none⟩ = some x := hW.cell 0; go_simp)
theorem eKRows8 : (Tryz.prog.info? 135).map (fun i => (i.methods.find? (·.name == "Rows")).map (fun m => (m.path.toList.map (fun s => (s.struct, s.index, s.deref)), m.func))) = some (some ([(135, 0, false)], none)) := by kernel_rfl
theorem mNRows8 {w : World} {g : Nat} {x : Value} (hW : Whole w g 129 #[x]) (fuel : Nat) : (method (fuel + 1 + 1) 135 (.agg #[.iface 127 (.pointer (some ⟨g, 0, none⟩)), .func (.func 35) #[] #[], .func (.func 36) #[] #[]]) "Rows").run Tryz.prog w = .ok (213, x) w :=
  (method_emb eKRows8 Tryz.underlying135 rfl rfl (fun w => by simp [isAgg, run_underlying Tryz.underlying133]) rfl).trans (mKRows8 hW fuel)
set_option maxRecDepth 100000 in
set_option maxHeartbeats 2000000 in
theorem kRows8 (w : World) (A : Option Addr) (n c : Nat) : Calls Tryz.prog 213 #[.slice A n c] w fun e w' => e = .returned (.int .i64 (n : Int)) ∧ w = w' := by
  go_enter Tryz.func213, Tryz.ntmps213
  go_wp2_with fail
  go_ret
  exact ⟨rfl, rfl⟩
set_option maxRecDepth 100000 in
set_option maxHeartbeats 2000000 in
theorem kall8 (w : World) (base g : Nat) (A : Option Addr) (n c : Nat) (xs : List Nat) (hC : KAt 129 70 w base g A n c (nw xs .u16)) (hl : xs.length = n) (hxm : ∀ x ∈ xs, x < 65536) (hn : n ≤ 100000) :
    Calls Tryz.prog 44 #[.iface 135 (.agg #[.iface 127 (.pointer (some ⟨g, 0, none⟩)), .func (.func 35) #[] #[], .func (.func 36) #[] #[]])] w fun e w' => ∃ B d, e = .returned (.slice B n d) ∧ w'.ownsRow w.heap.size 29 4 (.slice B n d) n (xs.map rowN).flatten ∧ Keeps (fun _ => False) w w' := by
  obtain ⟨i0, hi0, hz0, hz1, hz2⟩ := info_parts infoR4
  have HC := Lib.hid hC
  have HL := Lib.hid hl
  have HX := Lib.hid hxm
  have hma := mKAt8
  clear hC hl hxm
  go_enter Tryz.func44, Tryz.ntmps44
  go_wp2_with fail
  go_loopw [3, 4] (fun v i wr => ∃ (k : Nat) (B : Option Addr) (d : Nat), k ≤ n ∧ i = .int .i64 k ∧ v = .slice B k d ∧ wr.ownsRow w.heap.size 29 4 (.slice B k d) k (((xs.take k).map rowN).flatten) ∧ Keeps (fun _ => False) w wr) (fun _ i _ => n - (RowKit.intOf i).toNat)
  case atStart => exact ⟨0, none, 0, Nat.zero_le _, rfl, rfl, World.ownsRow_nil _ _ _ _, Keeps.refl _ _⟩
  case round =>
    obtain ⟨k, B, d, hk, rfl, rfl, hO, hK⟩ := hrel
    have hCr := HC.out.new hK
    have hmr : (method 499 135 (.agg #[.iface 127 (.pointer (some ⟨g, 0, none⟩)), .func (.func 35) #[] #[], .func (.func 36) #[] #[]]) "Rows").run Tryz.prog wr = .ok (213, .slice A n c) wr := mNRows8 hCr.blk _
    have HR := Lib.hid (kRows8 wr A n c)
    by_cases hlt : k < n
    · obtain ⟨x, hx⟩ : ∃ x, xs[k]? = some x := ⟨_, List.getElem?_eq_getElem (by rw [HL.out]; exact hlt)⟩
      have HAT := Lib.hid (kat8 wr base g A n c k x xs hCr hlt hx (HX.out x (List.mem_of_getElem? hx)) (by omega))
      have HTK := Lib.hid (rowsN_snoc hx)
      have HO := Lib.hid hO
      have HK := Lib.hid hK
      unfold row4 at HAT
      clear hCr hx hO hK
      go_wp2_with fail
      refine HR.out.mono ?_
      rintro e w2 ⟨rfl, rfl⟩
      go_wp2_with fail
      refine HAT.out.mono ?_
      rintro e w2 ⟨rfl, K2⟩
      have ka := (HK.out.trans K2 (fun _ _ h => h)).alloc (.cells #[.int .u64 (x : Int), .int .u64 0, .int .u64 0, .int .u64 0] 29)
      have howna := own_keeps HO.out (K2.alloc (.cells #[.int .u64 (x : Int), .int .u64 0, .int .u64 0, .int .u64 0] 29)) (fun _ _ h => h)
      have hRd := Rd.whole4 (Whole.new w2 29 #[.int .u64 (x : Int), .int .u64 0, .int .u64 0, .int .u64 0])
      go_wp2_with (
        at_builtin
        refine wpList_append_rd _ rfl (.tmp 11) (.tmp 15) _ rfl w.heap.size 29 i0 _ 4 32 Tryz.underlying24 hi0 hz0 hz1 hz2 rfl (by omega) B d k _ rfl howna (some ⟨w2.heap.size, 0, none⟩) 1 1 _ rfl hRd (oneN x) (by simp only [maxLen]; omega) (by omega) ka.size ?_
        intro B2 d2 w3 hown2 hg2 hat2
        have hK2 := ka.grown hg2 (fun i hi => .inr (howna.lt i (by rw [ownBlock_slice]; exact hi)).1)
        rw [HTK.out] at hown2)
      go_roundw
      case rel => exact ⟨k + 1, B2, d2, by omega, by go_num, rfl, hown2, hK2⟩
      case measure => (first | (simp [RowKit.intOf]; done) | (simp [RowKit.intOf]; omega))
    · have hkn : k = n := by omega
      subst hkn
      rw [List.take_of_length_le (by rw [HL.out]; exact Nat.le_refl _)] at hO
      have HO := Lib.hid hO
      have HK := Lib.hid hK
      clear hCr hO hK
      go_wp2_with fail
      refine HR.out.mono ?_
      rintro e w2 ⟨rfl, rfl⟩
      go_wp2_with fail
      go_ret
      exact ⟨B, d, rfl, HO.out, HK.out⟩
theorem iKAt9 : (Tryz.prog.info? 141).map (fun i => (i.methods.find? (·.name == "given.example/pub-clapboard/impl.at")).map (fun m => (m.path.toList.length, m.func))) = some (some (0, some (221, false))) := by kernel_rfl
theorem mKAt9 (w : World) (g : Nat) (fuel : Nat) : (method (fuel + 1) 141 (.agg #[.iface 53 (.pointer (some ⟨g, 0, none⟩)), .func (.func 37) #[] #[], .func (.func 38) #[] #[]]) "given.example/pub-clapboard/impl.at").run Tryz.prog w = .ok (221, .agg #[.iface 53 (.pointer (some ⟨g, 0, none⟩)), .func (.func 37) #[] #[], .func (.func 38) #[] #[]]) w := by
  obtain ⟨i, m, h1, h2, h3, h4⟩ := method_row iKAt9
  exact method_self h1 h2 h3 h4 Tryz.underlying141
theorem iKRows9 : (Tryz.prog.info? 53).map (fun i => (i.methods.find? (·.name == "Rows")).map (fun m => (m.path.toList.length, m.func))) = some (some (0, some (111, false))) := by kernel_rfl
theorem mKRows9 {w : World} {g : Nat} {x : Value} (hW : Whole w g 54 #[x]) (fuel : Nat) : (method (fuel + 1) 53 (.pointer (some ⟨g, 0, none⟩)) "Rows").run Tryz.prog w = .ok (111, x) w := by
  obtain ⟨i, m, h1, h2, h3, h4⟩ := method_row iKRows9
  exact method_val h1 h2 h3 h4 Tryz.underlying53 (by have h0 : w.cell? ⟨g, 0, none⟩ = some x := hW.cell 0; go_simp)
theorem eKRows9 : (Tryz.prog.info? 141).map (fun i => (i.methods.find? (·.name == "Rows")).map (fun m => (m.path.toList.map (fun s => (s.struct, s.index, s.deref)), m.func))) = some (some ([(141, 0, false)], none)) := by kernel_rfl
theorem mNRows9 {w : World} {g : Nat} {x : Value} (hW : Whole w g 54 #[x]) (fuel : Nat) : (method (fuel + 1 + 1) 141 (.agg #[.iface 53 (.pointer (some ⟨g, 0, none⟩)), .func (.func 37) #[] #[], .func (.func 38) #[] #[]]) "Rows").run Tryz.prog w = .ok (111, x) w :=
  (method_emb eKRows9 Tryz.underlying141 rfl rfl (fun w => by simp [isAgg, run_underlying Tryz.underlying139]) rfl).trans (mKRows9 hW fuel)
set_option maxRecDepth 100000 in
set_option maxHeartbeats 2000000 in
theorem kRows9 (w : World) (A : Option Addr) (n c : Nat) : Calls Tryz.prog 111 #[.slice A n c] w fun e w' => e = .returned (.int .i64 (n : Int)) ∧ w = w' := by
  go_enter Tryz.func111, Tryz.ntmps111
  go_wp2_with fail
  go_ret
  exact ⟨rfl, rfl⟩
set_option maxRecDepth 100000 in
set_option maxHeartbeats 2000000 in
theorem kall9 (w : World) (base g : Nat) (A : Option Addr) (n c : Nat) (xs : List Nat) (hC : KAt 54 26 w base g A n c (nw xs .u32)) (hl : xs.length = n) (hxm : ∀ x ∈ xs, x < 4294967296) (hn : n ≤ 100000) :
    Calls Tryz.prog 44 #[.iface 141 (.agg #[.iface 53 (.pointer (some ⟨g, 0, none⟩)), .func (.func 37) #[] #[], .func (.func 38) #[] #[]])] w fun e w' => ∃ B d, e = .returned (.slice B n d) ∧ w'.ownsRow w.heap.size 29 4 (.slice B n d) n (xs.map rowN).flatten ∧ Keeps (fun _ => False) w w' := by
  obtain ⟨i0, hi0, hz0, hz1, hz2⟩ := info_parts infoR4
  have HC := Lib.hid hC
  have HL := Lib.hid hl
  have HX := Lib.hid hxm
  have hma := mKAt9
  clear hC hl hxm
  go_enter Tryz.func44, Tryz.ntmps44
  go_wp2_with fail
  go_loopw [3, 4] (fun v i wr => ∃ (k : Nat) (B : Option Addr) (d : Nat), k ≤ n ∧ i = .int .i64 k ∧ v = .slice B k d ∧ wr.ownsRow w.heap.size 29 4 (.slice B k d) k (((xs.take k).map rowN).flatten) ∧ Keeps (fun _ => False) w wr) (fun _ i _ => n - (RowKit.intOf i).toNat)
  case atStart => exact ⟨0, none, 0, Nat.zero_le _, rfl, rfl, World.ownsRow_nil _ _ _ _, Keeps.refl _ _⟩
  case round =>
    obtain ⟨k, B, d, hk, rfl, rfl, hO, hK⟩ := hrel
    have hCr := HC.out.new hK
    have hmr : (method 499 141 (.agg #[.iface 53 (.pointer (some ⟨g, 0, none⟩)), .func (.func 37) #[] #[], .func (.func 38) #[] #[]]) "Rows").run Tryz.prog wr = .ok (111, .slice A n c) wr := mNRows9 hCr.blk _
    have HR := Lib.hid (kRows9 wr A n c)
    by_cases hlt : k < n
    · obtain ⟨x, hx⟩ : ∃ x, xs[k]? = some x := ⟨_, List.getElem?_eq_getElem (by rw [HL.out]; exact hlt)⟩
      have HAT := Lib.hid (kat9 wr base g A n c k x xs hCr hlt hx (HX.out x (List.mem_of_getElem? hx)) (by omega))
      have HTK := Lib.hid (rowsN_snoc hx)
      have HO := Lib.hid hO
      have HK := Lib.hid hK
      unfold row4 at HAT
      clear hCr hx hO hK
      go_wp2_with fail
      refine HR.out.mono ?_
      rintro e w2 ⟨rfl, rfl⟩
      go_wp2_with fail
      refine HAT.out.mono ?_
      rintro e w2 ⟨rfl, K2⟩
      have ka := (HK.out.trans K2 (fun _ _ h => h)).alloc (.cells #[.int .u64 (x : Int), .int .u64 0, .int .u64 0, .int .u64 0] 29)
      have howna := own_keeps HO.out (K2.alloc (.cells #[.int .u64 (x : Int), .int .u64 0, .int .u64 0, .int .u64 0] 29)) (fun _ _ h => h)
      have hRd := Rd.whole4 (Whole.new w2 29 #[.int .u64 (x : Int), .int .u64 0, .int .u64 0, .int .u64 0])
      go_wp2_with (
        at_builtin
        refine wpList_append_rd _ rfl (.tmp 11) (.tmp 15) _ rfl w.heap.size 29 i0 _ 4 32 Tryz.underlying24 hi0 hz0 hz1 hz2 rfl (by omega) B d k _ rfl howna (some ⟨w2.heap.size, 0, none⟩) 1 1 _ rfl hRd (oneN x) (by simp only [maxLen]; omega) (by omega) ka.size ?_
        intro B2 d2 w3 hown2 hg2 hat2
        have hK2 := ka.grown hg2 (fun i hi => .inr (howna.lt i (by rw [ownBlock_slice]; exact hi)).1)
        rw [HTK.out] at hown2)
      go_roundw
      case rel => exact ⟨k + 1, B2, d2, by omega, by go_num, rfl, hown2, hK2⟩
      case measure => (first | (simp [RowKit.intOf]; done) | (simp [RowKit.intOf]; omega))
    · have hkn : k = n := by omega
      subst hkn
      rw [List.take_of_length_le (by rw [HL.out]; exact Nat.le_refl _)] at hO
      have HO := Lib.hid hO
      have HK := Lib.hid hK
      clear hCr hO hK
      go_wp2_with fail
      refine HR.out.mono ?_
      rintro e w2 ⟨rfl, rfl⟩
      go_wp2_with fail
      go_ret
      exact ⟨B, d, rfl, HO.out, HK.out⟩
theorem iKAt10 : (Tryz.prog.info? 150).map (fun i => (i.methods.find? (·.name == "given.example/pub-clapboard/impl.at")).map (fun m => (m.path.toList.length, m.func))) = some (some (0, some (230, false))) := by kernel_rfl
theorem mKAt10 (w : World) (g : Nat) (fuel : Nat) : (method (fuel + 1) 150 (.agg #[.iface 142 (.pointer (some ⟨g, 0, none⟩)), .func (.func 39) #[] #[], .func (.func 40) #[] #[]]) "given.example/pub-clapboard/impl.at").run Tryz.prog w = .ok (230, .agg #[.iface 142 (.pointer (some ⟨g, 0, none⟩)), .func (.func 39) #[] #[], .func (.func 40) #[] #[]]) w := by
  obtain ⟨i, m, h1, h2, h3, h4⟩ := method_row iKAt10
  exact method_self h1 h2 h3 h4 Tryz.underlying150
theorem iKRows10 : (Tryz.prog.info? 142).map (fun i => (i.methods.find? (·.name == "Rows")).map (fun m => (m.path.toList.length, m.func))) = some (some (0, some (96, false))) := by kernel_rfl
theorem mKRows10 {w : World} {g : Nat} {x : Value} (hW : Whole w g 144 #[x]) (fuel : Nat) : (method (fuel + 1) 142 (.pointer (some ⟨g, 0, none⟩)) "Rows").run Tryz.prog w = .ok (96, x) w := by
  obtain ⟨i, m, h1, h2, h3, h4⟩ := method_row iKRows10
  exact method_val h1 h2 h3 h4 Tryz.underlying142 (by have h0 : w.cell? ⟨g, 0, none⟩ = some x := hW.cell 0; go_simp)
theorem eKRows10 : (Tryz.prog.info? 150).map (fun i => (i.methods.find? (·.name == "Rows")).map (fun m => (m.path.toList.map (fun s => (s.struct, s.index, s.deref)), m.func))) = some (some ([(150, 0, false)], none)) := by kernel_rfl
theorem mNRows10 {w : World} {g : Nat} {x : Value} (hW : Whole w g 144 #[x]) (fuel : Nat) : (method (fuel + 1 + 1) 150 (.agg #[.iface 142 (.pointer (some ⟨g, 0, none⟩)), .func (.func 39) #[] #[], .func (.func 40) #[] #[]]) "Rows").run Tryz.prog w = .ok (96, x) w :=
  (method_emb eKRows10 Tryz.underlying150 rfl rfl (fun w => by simp [isAgg, run_underlying Tryz.underlying148]) rfl).trans (mKRows10 hW fuel)
set_option maxRecDepth 100000 in
set_option maxHeartbeats 2000000 in
theorem kRows10 (w : World) (A : Option Addr) (n c : Nat) : Calls Tryz.prog 96 #[.slice A n c] w fun e w' => e = .returned (.int .i64 (n : Int)) ∧ w = w' := by
  go_enter Tryz.func96, Tryz.ntmps96
  go_wp2_with fail
  go_ret
  exact ⟨rfl, rfl⟩
set_option maxRecDepth 100000 in
set_option maxHeartbeats 2000000 in
theorem kall10 (w : World) (base g : Nat) (A : Option Addr) (n c : Nat) (xs : List Nat) (hC : KAt 144 27 w base g A n c (nw xs .u64)) (hl : xs.length = n) (hxm : ∀ x ∈ xs, x < 18446744073709551616) (hn : n ≤ 100000) :
    Calls Tryz.prog 44 #[.iface 150 (.agg #[.iface 142 (.pointer (some ⟨g, 0, none⟩)), .func (.func 39) #[] #[], .func (.func 40) #[] #[]])] w fun e w' => ∃ B d, e = .returned (.slice B n d) ∧ w'.ownsRow w.heap.size 29 4 (.slice B n d) n (xs.map rowN).flatten ∧ Keeps (fun _ => False) w w' := by
  obtain ⟨i0, hi0, hz0, hz1, hz2⟩ := info_parts infoR4
  have HC := Lib.hid hC
  have HL := Lib.hid hl
  have HX := Lib.hid hxm
  have hma := mKAt10
  clear hC hl hxm
  go_enter Tryz.func44, Tryz.ntmps44
  go_wp2_with fail
  go_loopw [3, 4] (fun v i wr => ∃ (k : Nat) (B : Option Addr) (d : Nat), k ≤ n ∧ i = .int .i64 k ∧ v = .slice B k d ∧ wr.ownsRow w.heap.size 29 4 (.slice B k d) k (((xs.take k).map rowN).flatten) ∧ Keeps (fun _ => False) w wr) (fun _ i _ => n - (RowKit.intOf i).toNat)
  case atStart => exact ⟨0, none, 0, Nat.zero_le _, rfl, rfl, World.ownsRow_nil _ _ _ _, Keeps.refl _ _⟩
  case round =>
    obtain ⟨k, B, d, hk, rfl, rfl, hO, hK⟩ := hrel
    have hCr := HC.out.new hK
    have hmr : (method 499 150 (.agg #[.iface 142 (.pointer (some ⟨g, 0, none⟩)), .func (.func 39) #[] #[], .func (.func 40) #[] #[]]) "Rows").run Tryz.prog wr = .ok (96, .slice A n c) wr := mNRows10 hCr.blk _
    have HR := Lib.hid (kRows10 wr A n c)
    by_cases hlt : k < n
    · obtain ⟨x, hx⟩ : ∃ x, xs[k]? = some x := ⟨_, List.getElem?_eq_getElem (by rw [HL.out]; exact hlt)⟩
      have HAT := Lib.hid (kat10 wr base g A n c k x xs hCr hlt hx (HX.out x (List.mem_of_getElem? hx)) (by omega))
      have HTK := Lib.hid (rowsN_snoc hx)
      have HO := Lib.hid hO
      have HK := Lib.hid hK
      unfold row4 at HAT
      clear hCr hx hO hK
      go_wp2_with fail
      refine HR.out.mono ?_
      rintro e w2 ⟨rfl, rfl⟩
      go_wp2_with fail
      refine HAT.out.mono ?_
      rintro e w2 ⟨rfl, K2⟩
      have ka := (HK.out.trans K2 (fun _ _ h => h)).alloc (.cells #[.int .u64 (x : Int), .int .u64 0, .int .u64 0, .int .u64 0] 29)
      have howna := own_keeps HO.out (K2.alloc (.cells #[.int .u64 (x : Int), .int .u64 0, .int .u64 0, .int .u64 0] 29)) (fun _ _ h => h)
      have hRd := Rd.whole4 (Whole.new w2 29 #[.int .u64 (x : Int), .int .u64 0, .int .u64 0, .int .u64 0])
      go_wp2_with (
        at_builtin
        refine wpList_append_rd _ rfl (.tmp 11) (.tmp 15) _ rfl w.heap.size 29 i0 _ 4 32 Tryz.underlying24 hi0 hz0 hz1 hz2 rfl (by omega) B d k _ rfl howna (some ⟨w2.heap.size, 0, none⟩) 1 1 _ rfl hRd (oneN x) (by simp only [maxLen]; omega) (by omega) ka.size ?_
        intro B2 d2 w3 hown2 hg2 hat2
        have hK2 := ka.grown hg2 (fun i hi => .inr (howna.lt i (by rw [ownBlock_slice]; exact hi)).1)
        rw [HTK.out] at hown2)
      go_roundw
      case rel => exact ⟨k + 1, B2, d2, by omega, by go_num, rfl, hown2, hK2⟩
      case measure => (first | (simp [RowKit.intOf]; done) | (simp [RowKit.intOf]; omega))
    · have hkn : k = n := by omega
      subst hkn
      rw [List.take_of_length_le (by rw [HL.out]; exact Nat.le_refl _)] at hO
      have HO := Lib.hid hO
      have HK := Lib.hid hK
      clear hCr hO hK
      go_wp2_with fail
      refine HR.out.mono ?_
      rintro e w2 ⟨rfl, rfl⟩
      go_wp2_with fail
      go_ret
      exact ⟨B, d, rfl, HO.out, HK.out⟩
end Go.Proofs.YtoilbojaenfalaaGreat
