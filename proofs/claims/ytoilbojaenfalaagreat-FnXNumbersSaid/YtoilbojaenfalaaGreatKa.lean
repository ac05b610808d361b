/- Columns of numbers by kind: made, a number appended, a row turned in and out. Conditions: sizes far below the machine's. -/
import Derived.Test.YtoilbojaenfalaaGreatMem
import Derived.Test.YtoilbojaenfalaaGreatMt
import Derived.Test.YtoilbojaenfalaaGreatChecked
import Derived.Laws.Rows
import Derived.IntWalk
import Derived.Laws.OwnMore
namespace Go.Proofs.YtoilbojaenfalaaGreat
open Go.RowKit Go.Lib
set_option linter.unusedVariables false
/-- A column of numbers: its block, its row. -/
structure KAt (T E : TypeId) (w : World) (base g : Nat) (A : Option Addr) (n c : Nat) (vs : List Value) : Prop where
  blk : Whole w g T #[.slice A n c]
  own : w.ownsRow base E 1 (.slice A n c) n vs
  lo : base ≤ g
theorem KAt.new {T E : TypeId} {w w' : World} {base g : Nat} {A : Option Addr} {n c : Nat} {vs : List Value} (h : KAt T E w base g A n c vs) (K : Keeps (fun _ => False) w w') : KAt T E w' base g A n c vs := ⟨h.blk.keeps K (fun h => h), own_keeps h.own K (fun _ _ h => h), h.lo⟩
abbrev KRes (T E : TypeId) (w : World) (base g : Nat) (A : Option Addr) (n : Nat) (vs : List Value) (e : Ending) (w' : World) : Prop := ∃ A' c', e = .returned (.tuple #[]) ∧ KAt T E w' base g A' n c' vs ∧ Keeps (fun k => k = g ∨ ob A = some k) w w' ∧ (ob A' = ob A ∨ ∀ k, ob A' = some k → w.heap.size ≤ k)
theorem Rd.whole' {w : World} {g : Nat} {t : TypeId} {cs : Array Value} {xs : List Value} {n : Nat} (h : Whole w g t cs) (hx : cs.toList = xs) (hn : xs.length = n) : Rd w 1 (some ⟨g, 0, none⟩) n xs :=
  ⟨by omega, fun _ => ⟨_, rfl, h.lt, fun j u hu => by rw [add_lit', Nat.zero_add, h.cell j, ← Array.getElem?_toList, hx]; exact hu⟩⟩
/-- A row of numbers of the package: four cells. -/
abbrev row4 (a b c d : Int) : Value := .agg #[.int .u64 a, .int .u64 b, .int .u64 c, .int .u64 d]
abbrev kv8 (g : Nat) : Value := .iface 135 (.agg #[.iface 127 (.pointer (some ⟨g, 0, none⟩)), .func (.func 35) #[] #[], .func (.func 36) #[] #[]])
set_option maxRecDepth 100000 in
set_option maxHeartbeats 2000000 in
theorem kcol8 (w : World) : Calls Tryz.prog 12 #[.int .i64 8] w fun e w' => e = .returned (kv8 w.heap.size) ∧ w' = w.alloc (.cells #[.slice none 0 0] 129) := by
  go_enter Tryz.func12, Tryz.ntmps12
  go_wp2_with fail
  go_ret
  exact ⟨rfl, rfl⟩
theorem kNew8 (w : World) {base : Nat} (h : base ≤ w.heap.size) : KAt 129 70 (w.alloc (.cells #[.slice none 0 0] 129)) base w.heap.size none 0 0 [] := ⟨Whole.new w _ _, World.ownsRow_nil _ _ _ _, h⟩
set_option maxRecDepth 100000 in
set_option maxHeartbeats 2000000 in
theorem kin8 (w : World) (a b c d : Int) (h0 : 0 ≤ a) (h1 : a < 65536) : Calls Tryz.prog 35 #[row4 a b c d] w fun e w' => e = .returned (.int .u16 a) ∧ Keeps (fun _ => False) w w' := by
  have K0 := (Keeps.refl (fun _ => False) w).alloc (.cells #[.int .u64 a, .int .u64 b, .int .u64 c, .int .u64 d] 29)
  go_enter Tryz.func35, Tryz.ntmps35
  go_wp2_with fail
  go_ret
  exact ⟨rfl, K0⟩
theorem kInfo8 : (Tryz.prog.info? 70).map (fun i => (i.zero, i.size, i.bytes)) = some (some (.int .u16 0), 1, 2) := by kernel_rfl
set_option maxRecDepth 100000 in
set_option maxHeartbeats 2000000 in
theorem kApp8 (w : World) (base g : Nat) (A : Option Addr) (n c : Nat) (vs : List Value) (a : Int) (hC : KAt 129 70 w base g A n c vs) (hn : n ≤ 1000000) : Calls Tryz.prog 207 #[.pointer (some ⟨g, 0, none⟩), .int .u16 a] w fun e w' => KRes 129 70 w base g A (n + 1) (vs ++ [.int .u16 a]) e w' := by
  obtain ⟨i0, hi0, hz0, hz1, hz2⟩ := info_parts kInfo8
  go_enter Tryz.func207, Tryz.ntmps207
  have hc0 : w.cell? ⟨g, 0, none⟩ = some (.slice A n c) := hC.blk.cell 0
  have hlt := hC.blk.lt
  have hfar := own_far hC.own hC.blk (by decide)
  rw [ownBlock_slice] at hfar
  have hbb : base ≤ w.heap.size := Nat.le_trans hC.lo (Nat.le_of_lt hlt)
  have ka := (Keeps.refl (fun _ => False) w).alloc (.cells #[.int .u16 a] 70)
  have hC1 := hC.new ka
  have hown1 := hC1.own
  have hown0 := hC.own
  have HB1 := Lib.hid hC1.blk
  have HLO := Lib.hid hC.lo
  have hRd := Rd.whole' (Whole.new w 70 #[.int .u16 a]) rfl rfl
  clear hC hC1
  go_wp2_with (
    at_builtin
    refine wpList_append_rd _ rfl (.tmp 7) (.tmp 9) _ rfl base 70 i0 _ 1 2 Tryz.underlying129 hi0 hz0 hz1 hz2 rfl Nat.one_pos A c n _ rfl hown1 (some ⟨w.heap.size, 0, none⟩) 1 1 [.int .u16 a] rfl hRd (fun u hu => by rw [List.mem_singleton.1 hu]; rfl) (by simp only [maxLen]; omega) (by omega) (Nat.le_trans hbb ka.size) ?_
    intro A2 c2 w2 hown2 hg2 hat2
    have hblk := HB1.out.grown hg2 (Ne.symm hfar)
    have hc1 : w2.cell? ⟨g, 0, none⟩ = some (.slice A n c) := hblk.cell 0
    have hf1 : w2.frozen? ⟨g, 0, none⟩ = false := hblk.frozen 0
    have hl1 := hblk.lt)
  go_end0
  have hfar1 := own_far hown2 hblk (by decide)
  rw [ownBlock_slice] at hfar1
  have K3 := (Keeps.refl (fun k => k = g) w2).setCell (p := ⟨g, 0, none⟩) (.inl rfl) (.slice A2 (n + 1) c2)
  have kg : Keeps (fun k => k = g ∨ ob A = some k) w w2 := (ka.mono (S' := fun k => k = g ∨ ob A = some k) (fun _ _ h => h.elim)).grown hg2 (fun k hk => .inl (.inr hk))
  refine ⟨A2, c2, rfl, ⟨hblk.put 0 _, own_keeps hown2 K3 (fun k hk h => by rw [ownBlock_slice] at hk; subst h; exact hfar1 hk), HLO.out⟩, kg.trans K3 (fun i _ h => .inl h), ?_⟩
  rcases hat2 with h | h
  · exact .inl h
  · exact .inr (fun k hk => by rw [h] at hk; injection hk with hk; rw [World.size_alloc] at hk; omega)
abbrev kv9 (g : Nat) : Value := .iface 141 (.agg #[.iface 53 (.pointer (some ⟨g, 0, none⟩)), .func (.func 37) #[] #[], .func (.func 38) #[] #[]])
set_option maxRecDepth 100000 in
set_option maxHeartbeats 2000000 in
theorem kcol9 (w : World) : Calls Tryz.prog 12 #[.int .i64 9] w fun e w' => e = .returned (kv9 w.heap.size) ∧ w' = w.alloc (.cells #[.slice none 0 0] 54) := by
  go_enter Tryz.func12, Tryz.ntmps12
  go_wp2_with fail
  go_ret
  exact ⟨rfl, rfl⟩
theorem kNew9 (w : World) {base : Nat} (h : base ≤ w.heap.size) : KAt 54 26 (w.alloc (.cells #[.slice none 0 0] 54)) base w.heap.size none 0 0 [] := ⟨Whole.new w _ _, World.ownsRow_nil _ _ _ _, h⟩
set_option maxRecDepth 100000 in
set_option maxHeartbeats 2000000 in
theorem kin9 (w : World) (a b c d : Int) (h0 : 0 ≤ a) (h1 : a < 4294967296) : Calls Tryz.prog 37 #[row4 a b c d] w fun e w' => e = .returned (.int .u32 a) ∧ Keeps (fun _ => False) w w' := by
  have K0 := (Keeps.refl (fun _ => False) w).alloc (.cells #[.int .u64 a, .int .u64 b, .int .u64 c, .int .u64 d] 29)
  go_enter Tryz.func37, Tryz.ntmps37
  go_wp2_with fail
  go_ret
  exact ⟨rfl, K0⟩
theorem kInfo9 : (Tryz.prog.info? 26).map (fun i => (i.zero, i.size, i.bytes)) = some (some (.int .u32 0), 1, 4) := by kernel_rfl
set_option maxRecDepth 100000 in
set_option maxHeartbeats 2000000 in
theorem kApp9 (w : World) (base g : Nat) (A : Option Addr) (n c : Nat) (vs : List Value) (a : Int) (hC : KAt 54 26 w base g A n c vs) (hn : n ≤ 1000000) : Calls Tryz.prog 106 #[.pointer (some ⟨g, 0, none⟩), .int .u32 a] w fun e w' => KRes 54 26 w base g A (n + 1) (vs ++ [.int .u32 a]) e w' := by
  obtain ⟨i0, hi0, hz0, hz1, hz2⟩ := info_parts kInfo9
  go_enter Tryz.func106, Tryz.ntmps106
  have hc0 : w.cell? ⟨g, 0, none⟩ = some (.slice A n c) := hC.blk.cell 0
  have hlt := hC.blk.lt
  have hfar := own_far hC.own hC.blk (by decide)
  rw [ownBlock_slice] at hfar
  have hbb : base ≤ w.heap.size := Nat.le_trans hC.lo (Nat.le_of_lt hlt)
  have ka := (Keeps.refl (fun _ => False) w).alloc (.cells #[.int .u32 a] 26)
  have hC1 := hC.new ka
  have hown1 := hC1.own
  have hown0 := hC.own
  have HB1 := Lib.hid hC1.blk
  have HLO := Lib.hid hC.lo
  have hRd := Rd.whole' (Whole.new w 26 #[.int .u32 a]) rfl rfl
  clear hC hC1
  go_wp2_with (
    at_builtin
    refine wpList_append_rd _ rfl (.tmp 7) (.tmp 9) _ rfl base 26 i0 _ 1 4 Tryz.underlying54 hi0 hz0 hz1 hz2 rfl Nat.one_pos A c n _ rfl hown1 (some ⟨w.heap.size, 0, none⟩) 1 1 [.int .u32 a] rfl hRd (fun u hu => by rw [List.mem_singleton.1 hu]; rfl) (by simp only [maxLen]; omega) (by omega) (Nat.le_trans hbb ka.size) ?_
    intro A2 c2 w2 hown2 hg2 hat2
    have hblk := HB1.out.grown hg2 (Ne.symm hfar)
    have hc1 : w2.cell? ⟨g, 0, none⟩ = some (.slice A n c) := hblk.cell 0
    have hf1 : w2.frozen? ⟨g, 0, none⟩ = false := hblk.frozen 0
    have hl1 := hblk.lt)
  go_end0
  have hfar1 := own_far hown2 hblk (by decide)
  rw [ownBlock_slice] at hfar1
  have K3 := (Keeps.refl (fun k => k = g) w2).setCell (p := ⟨g, 0, none⟩) (.inl rfl) (.slice A2 (n + 1) c2)
  have kg : Keeps (fun k => k = g ∨ ob A = some k) w w2 := (ka.mono (S' := fun k => k = g ∨ ob A = some k) (fun _ _ h => h.elim)).grown hg2 (fun k hk => .inl (.inr hk))
  refine ⟨A2, c2, rfl, ⟨hblk.put 0 _, own_keeps hown2 K3 (fun k hk h => by rw [ownBlock_slice] at hk; subst h; exact hfar1 hk), HLO.out⟩, kg.trans K3 (fun i _ h => .inl h), ?_⟩
  rcases hat2 with h | h
  · exact .inl h
  · exact .inr (fun k hk => by rw [h] at hk; injection hk with hk; rw [World.size_alloc] at hk; omega)
abbrev kv10 (g : Nat) : Value := .iface 150 (.agg #[.iface 142 (.pointer (some ⟨g, 0, none⟩)), .func (.func 39) #[] #[], .func (.func 40) #[] #[]])
set_option maxRecDepth 100000 in
set_option maxHeartbeats 2000000 in
theorem kcol10 (w : World) : Calls Tryz.prog 12 #[.int .i64 10] w fun e w' => e = .returned (kv10 w.heap.size) ∧ w' = w.alloc (.cells #[.slice none 0 0] 144) := by
  go_enter Tryz.func12, Tryz.ntmps12
  go_wp2_with fail
  go_ret
  exact ⟨rfl, rfl⟩
theorem kNew10 (w : World) {base : Nat} (h : base ≤ w.heap.size) : KAt 144 27 (w.alloc (.cells #[.slice none 0 0] 144)) base w.heap.size none 0 0 [] := ⟨Whole.new w _ _, World.ownsRow_nil _ _ _ _, h⟩
set_option maxRecDepth 100000 in
set_option maxHeartbeats 2000000 in
theorem kin10 (w : World) (a b c d : Int) (h0 : 0 ≤ a) (h1 : a < 18446744073709551616) : Calls Tryz.prog 39 #[row4 a b c d] w fun e w' => e = .returned (.int .u64 a) ∧ Keeps (fun _ => False) w w' := by
  have K0 := (Keeps.refl (fun _ => False) w).alloc (.cells #[.int .u64 a, .int .u64 b, .int .u64 c, .int .u64 d] 29)
  go_enter Tryz.func39, Tryz.ntmps39
  go_wp2_with fail
  go_ret
  exact ⟨rfl, K0⟩
theorem kInfo10 : (Tryz.prog.info? 27).map (fun i => (i.zero, i.size, i.bytes)) = some (some (.int .u64 0), 1, 8) := by kernel_rfl
set_option maxRecDepth 100000 in
set_option maxHeartbeats 2000000 in
theorem kApp10 (w : World) (base g : Nat) (A : Option Addr) (n c : Nat) (vs : List Value) (a : Int) (hC : KAt 144 27 w base g A n c vs) (hn : n ≤ 1000000) : Calls Tryz.prog 222 #[.pointer (some ⟨g, 0, none⟩), .int .u64 a] w fun e w' => KRes 144 27 w base g A (n + 1) (vs ++ [.int .u64 a]) e w' := by
  obtain ⟨i0, hi0, hz0, hz1, hz2⟩ := info_parts kInfo10
  go_enter Tryz.func222, Tryz.ntmps222
  have hc0 : w.cell? ⟨g, 0, none⟩ = some (.slice A n c) := hC.blk.cell 0
  have hlt := hC.blk.lt
  have hfar := own_far hC.own hC.blk (by decide)
  rw [ownBlock_slice] at hfar
  have hbb : base ≤ w.heap.size := Nat.le_trans hC.lo (Nat.le_of_lt hlt)
  have ka := (Keeps.refl (fun _ => False) w).alloc (.cells #[.int .u64 a] 27)
  have hC1 := hC.new ka
  have hown1 := hC1.own
  have hown0 := hC.own
  have HB1 := Lib.hid hC1.blk
  have HLO := Lib.hid hC.lo
  have hRd := Rd.whole' (Whole.new w 27 #[.int .u64 a]) rfl rfl
  clear hC hC1
  go_wp2_with (
    at_builtin
    refine wpList_append_rd _ rfl (.tmp 7) (.tmp 9) _ rfl base 27 i0 _ 1 8 Tryz.underlying144 hi0 hz0 hz1 hz2 rfl Nat.one_pos A c n _ rfl hown1 (some ⟨w.heap.size, 0, none⟩) 1 1 [.int .u64 a] rfl hRd (fun u hu => by rw [List.mem_singleton.1 hu]; rfl) (by simp only [maxLen]; omega) (by omega) (Nat.le_trans hbb ka.size) ?_
    intro A2 c2 w2 hown2 hg2 hat2
    have hblk := HB1.out.grown hg2 (Ne.symm hfar)
    have hc1 : w2.cell? ⟨g, 0, none⟩ = some (.slice A n c) := hblk.cell 0
    have hf1 : w2.frozen? ⟨g, 0, none⟩ = false := hblk.frozen 0
    have hl1 := hblk.lt)
  go_end0
  have hfar1 := own_far hown2 hblk (by decide)
  rw [ownBlock_slice] at hfar1
  have K3 := (Keeps.refl (fun k => k = g) w2).setCell (p := ⟨g, 0, none⟩) (.inl rfl) (.slice A2 (n + 1) c2)
  have kg : Keeps (fun k => k = g ∨ ob A = some k) w w2 := (ka.mono (S' := fun k => k = g ∨ ob A = some k) (fun _ _ h => h.elim)).grown hg2 (fun k hk => .inl (.inr hk))
  refine ⟨A2, c2, rfl, ⟨hblk.put 0 _, own_keeps hown2 K3 (fun k hk h => by rw [ownBlock_slice] at hk; subst h; exact hfar1 hk), HLO.out⟩, kg.trans K3 (fun i _ h => .inl h), ?_⟩
  rcases hat2 with h | h
  · exact .inl h
  · exact .inr (fun k hk => by rw [h] at hk; injection hk with hk; rw [World.size_alloc] at hk; omega)
end Go.Proofs.YtoilbojaenfalaaGreat
