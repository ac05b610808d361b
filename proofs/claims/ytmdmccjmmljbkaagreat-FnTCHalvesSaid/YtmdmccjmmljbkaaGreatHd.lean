/- A Decimal64 appended to its column. Conditions: sizes far below the machine's. -/
import Derived.Test.YtmdmccjmmljbkaaGreatHc
namespace Go.Proofs.YtmdmccjmmljbkaaGreat
open Go.RowKit Go.Lib
set_option linter.unusedVariables false
theorem wInfo9 : (Tryz.prog.info? 134).map (fun i => (i.zero, i.size, i.bytes)) = some (some (.int .i64 0), 1, 8) := by kernel_rfl
set_option maxRecDepth 100000 in
set_option maxHeartbeats 2000000 in
theorem wApp9 (w : World) (base g : Nat) (A : Option Addr) (n c : Nat) (vs : List Value) (a : Int) (hC : WAt 137 134 1 w base g A n c vs) (hn : n ≤ 1000000) : Calls Tryz.prog 176 #[.pointer (some ⟨g, 0, none⟩), .int .i64 a] w fun e w' => WRes 137 134 1 w base g A (n + 1) (vs ++ [.int .i64 a]) e w' := by
  obtain ⟨i0, hi0, hz0, hz1, hz2⟩ := info_parts wInfo9
  go_enter Tryz.func176, Tryz.ntmps176
  have hc0 : w.cell? ⟨g, 0, none⟩ = some (.slice A n c) := hC.blk.cell 0
  have hlt := hC.blk.lt
  have hfar := own_far hC.own hC.blk (by decide)
  rw [ownBlock_slice] at hfar
  have hbb : base ≤ w.heap.size := Nat.le_trans hC.lo (Nat.le_of_lt hlt)
  have ka := (Keeps.refl (fun _ => False) w).alloc (.cells #[.int .i64 a] 134)
  have hC1 := hC.new ka
  have hown1 := hC1.own
  have hown0 := hC.own
  have HB1 := Lib.hid hC1.blk
  have HLO := Lib.hid hC.lo
  have hRd := rdW (w := w) (t := 134) (K := 1) (vs := [.int .i64 a]) rfl
  clear hC hC1
  go_wp2_with (
    at_builtin
    refine wpList_append_rd _ rfl (.tmp 7) (.tmp 9) _ rfl base 134 i0 _ 1 8 Tryz.underlying137 hi0 hz0 hz1 hz2 rfl Nat.one_pos A c n _ rfl hown1 (some ⟨w.heap.size, 0, none⟩) 1 1 [.int .i64 a] rfl hRd (fun u hu => by rw [List.mem_singleton.1 hu]; rfl) (by simp only [maxLen]; omega) (by omega) (Nat.le_trans hbb ka.size) ?_
    intro A2 c2 w2 hown2 hg2 hat2
    have hblk := HB1.out.grown hg2 (Ne.symm hfar)
    have hc1 : w2.cell? ⟨g, 0, none⟩ = some (.slice A n c) := hblk.cell 0
    have hf1 : w2.frozen? ⟨g, 0, none⟩ = false := hblk.frozen 0
    have hl1 := hblk.lt)
  go_end0
  have hfar1 := own_far hown2 hblk (by decide)
  rw [ownBlock_slice] at hfar1
  have K3 := (Keeps.refl (fun k => k = g) w2).setCell (p := ⟨g, 0, none⟩) (.inl rfl) (.slice A2 (n + 1) c2)
  have kg : Keeps (fun k => k = g ∨ ob A = some k) w w2 := (ka.mono (S' := fun k => k = g ∨ ob A = some k) (fun _ _ h => h.elim)).grown hg2 (fun k hk => .inl (.inr hk))
  refine ⟨A2, c2, rfl, ⟨hblk.put 0 _, own_keeps hown2 K3 (fun k hk h => by rw [ownBlock_slice] at hk; subst h; exact hfar1 hk), HLO.out⟩, kg.trans K3 (fun i _ h => .inl h), ?_⟩
  rcases hat2 with h | h
  · exact .inl h
  · exact .inr (fun k hk => by rw [h] at hk; injection hk with hk; rw [World.size_alloc] at hk; omega)
end Go.Proofs.YtmdmccjmmljbkaaGreat
