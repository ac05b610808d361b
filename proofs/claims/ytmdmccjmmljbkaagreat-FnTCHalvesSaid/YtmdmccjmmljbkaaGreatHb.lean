/- A wide number appended to a column. Conditions: sizes far below the machine's. -/
import Derived.Test.YtmdmccjmmljbkaaGreatHa
import Derived.Test.YtmdmccjmmljbkaaGreatWt
import Derived.Deep.AppendLies
import Derived.Deep.RegionLaw
namespace Go.Proofs.YtmdmccjmmljbkaaGreat
open Go.RowKit Go.Lib
set_option linter.unusedVariables false
theorem wInfo10 : (Tryz.prog.info? 142).map (fun i => (i.zero, i.size, i.bytes)) = some (some (.agg #[.int .u64 0, .int .u64 0]), 2, 16) := by kernel_rfl
set_option maxRecDepth 100000 in
set_option maxHeartbeats 2000000 in
theorem wApp10 (w : World) (base g : Nat) (A : Option Addr) (n c : Nat) (vs : List Value) (x0 x1 : Nat) (hC : WAt 145 142 2 w base g A n c vs) (hn : n ≤ 1000000) : Calls Tryz.prog 185 #[.pointer (some ⟨g, 0, none⟩), .agg #[.int .u64 (x0 : Int), .int .u64 (x1 : Int)]] w fun e w' => WRes 145 142 2 w base g A (n + 1) (vs ++ [.int .u64 (x0 : Int), .int .u64 (x1 : Int)]) e w' := by
  obtain ⟨i0, hi0, hz0, hz1, hz2⟩ := info_parts wInfo10
  have hfar := own_far hC.own hC.blk (by decide)
  rw [ownBlock_slice] at hfar
  have hbb : base ≤ w.heap.size := Nat.le_trans hC.lo (Nat.le_of_lt hC.blk.lt)
  have ka := (Keeps.refl (fun _ => False) w).alloc (.cells #[.int .u64 (x0 : Int), .int .u64 (x1 : Int)] 142)
  have hE := Whole.new w 142 #[.int .u64 (x0 : Int), .int .u64 (x1 : Int)]
  have hC1 := hC.new ka
  have hsz : (w.alloc (.cells #[.int .u64 (x0 : Int), .int .u64 (x1 : Int)] 142)).heap.size = w.heap.size + 1 := by simp
  have HSZ := Lib.hid hsz
  clear hsz hC
  go_enter Tryz.func185, Tryz.ntmps185
  go_wp2_with fail
  generalize w.alloc (.cells #[.int .u64 (x0 : Int), .int .u64 (x1 : Int)] 142) = wa at *
  have kb := ((Keeps.refl (fun _ => False) wa).alloc (.cells #[.int .u64 (x0 : Int), .int .u64 (x1 : Int)] 142)).drew
  have c0 : wa.cell? ⟨g, 0, none⟩ = some (.slice A n c) := hC1.blk.cell 0
  have c00 : wa.drew.cell? ⟨g, 0, none⟩ = some (.slice A n c) := hC1.blk.drew.cell 0
  have d0 : wa.cell? ⟨w.heap.size, 0, none⟩ = some (.int .u64 (x0 : Int)) := hE.cell 0
  have dd0 : wa.drew.cell? ⟨w.heap.size, 0, none⟩ = some (.int .u64 (x0 : Int)) := hE.drew.cell 0
  have d1 : wa.cell? ⟨w.heap.size, 1, none⟩ = some (.int .u64 (x1 : Int)) := hE.cell 1
  have dd1 : wa.drew.cell? ⟨w.heap.size, 1, none⟩ = some (.int .u64 (x1 : Int)) := hE.drew.cell 1
  have hgl := hC1.blk.lt
  have hel := hE.lt
  have hRd := rdW (w := wa) (t := 142) (K := 2) (vs := [.int .u64 (x0 : Int), .int .u64 (x1 : Int)]) rfl
  have HB2 := Lib.hid (hC1.new kb)
  have HKB := Lib.hid (ka.trans kb (fun _ _ h => h))
  have hb2 : base ≤ (wa.alloc (.cells #[.int .u64 (x0 : Int), .int .u64 (x1 : Int)] 142)).drew.heap.size := Nat.le_trans hbb HKB.out.size
  clear hE hC1 kb ka
  go_region_law (first
    | (refine step_append_rd _ rfl (.tmp 7) (.tmp 9) _ rfl base 142 i0 _ 2 16 Tryz.underlying145 hi0 hz0 hz1 hz2 rfl (by omega) A c n _ rfl HB2.out.own (some ⟨wa.heap.size, 0, none⟩) 1 1 [.int .u64 (x0 : Int), .int .u64 (x1 : Int)] rfl hRd.drew (by intro u hu; simp only [List.mem_cons, List.not_mem_nil, or_false] at hu; rcases hu with rfl | rfl <;> rfl) (by simp only [maxLen]; omega) (by omega) hb2 ?_
       intro A2 c2 w2 hown2 hg2 hat2
       have hblk := HB2.out.blk.grown hg2 (Ne.symm hfar)
       have e0 : w2.cell? ⟨g, 0, none⟩ = some (.slice A n c) := hblk.cell 0
       have ef : w2.frozen? ⟨g, 0, none⟩ = false := hblk.frozen 0
       have el := hblk.lt
       have HG2 := Lib.hid hg2
       have HO2 := Lib.hid hown2
       have HAT2 := Lib.hid hat2
       have HBL := Lib.hid hblk
       clear hg2 hown2 hat2 hblk))
  all_goals
    go_wp2_with fail
    go_end0
    have hfar1 := own_far HO2.out HBL.out (by decide)
    rw [ownBlock_slice] at hfar1
    have K3 := (Keeps.refl (fun k => k = g) w2).setCell (p := ⟨g, 0, none⟩) (.inl rfl) (.slice A2 (n + 1) c2)
    have kg : Keeps (fun k => k = g ∨ ob A = some k) w w2 := (HKB.out.mono (S' := fun k => k = g ∨ ob A = some k) (fun _ _ h => h.elim)).grown HG2.out (fun k hk => .inl (.inr hk))
    refine ⟨A2, c2, rfl, ⟨HBL.out.put 0 _, own_keeps HO2.out K3 (fun k hk h => by rw [ownBlock_slice] at hk; subst h; exact hfar1 hk), HB2.out.lo⟩, kg.trans K3 (fun i _ h => .inl h), ?_⟩
    rcases HAT2.out with h | h
    · exact .inl h
    · exact .inr (fun k hk => by rw [h] at hk; injection hk with hk; have := HKB.out.size; omega)
theorem wInfo11 : (Tryz.prog.info? 152).map (fun i => (i.zero, i.size, i.bytes)) = some (some (.agg #[.int .u64 0, .int .u64 0, .int .u64 0, .int .u64 0]), 4, 32) := by kernel_rfl
set_option maxRecDepth 100000 in
set_option maxHeartbeats 2000000 in
theorem wApp11 (w : World) (base g : Nat) (A : Option Addr) (n c : Nat) (vs : List Value) (x0 x1 x2 x3 : Nat) (hC : WAt 155 152 4 w base g A n c vs) (hn : n ≤ 1000000) : Calls Tryz.prog 196 #[.pointer (some ⟨g, 0, none⟩), .agg #[.int .u64 (x0 : Int), .int .u64 (x1 : Int), .int .u64 (x2 : Int), .int .u64 (x3 : Int)]] w fun e w' => WRes 155 152 4 w base g A (n + 1) (vs ++ [.int .u64 (x0 : Int), .int .u64 (x1 : Int), .int .u64 (x2 : Int), .int .u64 (x3 : Int)]) e w' := by
  obtain ⟨i0, hi0, hz0, hz1, hz2⟩ := info_parts wInfo11
  have hfar := own_far hC.own hC.blk (by decide)
  rw [ownBlock_slice] at hfar
  have hbb : base ≤ w.heap.size := Nat.le_trans hC.lo (Nat.le_of_lt hC.blk.lt)
  have ka := (Keeps.refl (fun _ => False) w).alloc (.cells #[.int .u64 (x0 : Int), .int .u64 (x1 : Int), .int .u64 (x2 : Int), .int .u64 (x3 : Int)] 152)
  have hE := Whole.new w 152 #[.int .u64 (x0 : Int), .int .u64 (x1 : Int), .int .u64 (x2 : Int), .int .u64 (x3 : Int)]
  have hC1 := hC.new ka
  have hsz : (w.alloc (.cells #[.int .u64 (x0 : Int), .int .u64 (x1 : Int), .int .u64 (x2 : Int), .int .u64 (x3 : Int)] 152)).heap.size = w.heap.size + 1 := by simp
  have HSZ := Lib.hid hsz
  clear hsz hC
  go_enter Tryz.func196, Tryz.ntmps196
  go_wp2_with fail
  generalize w.alloc (.cells #[.int .u64 (x0 : Int), .int .u64 (x1 : Int), .int .u64 (x2 : Int), .int .u64 (x3 : Int)] 152) = wa at *
  have kb := ((Keeps.refl (fun _ => False) wa).alloc (.cells #[.int .u64 (x0 : Int), .int .u64 (x1 : Int), .int .u64 (x2 : Int), .int .u64 (x3 : Int)] 152)).drew
  have c0 : wa.cell? ⟨g, 0, none⟩ = some (.slice A n c) := hC1.blk.cell 0
  have c00 : wa.drew.cell? ⟨g, 0, none⟩ = some (.slice A n c) := hC1.blk.drew.cell 0
  have d0 : wa.cell? ⟨w.heap.size, 0, none⟩ = some (.int .u64 (x0 : Int)) := hE.cell 0
  have dd0 : wa.drew.cell? ⟨w.heap.size, 0, none⟩ = some (.int .u64 (x0 : Int)) := hE.drew.cell 0
  have d1 : wa.cell? ⟨w.heap.size, 1, none⟩ = some (.int .u64 (x1 : Int)) := hE.cell 1
  have dd1 : wa.drew.cell? ⟨w.heap.size, 1, none⟩ = some (.int .u64 (x1 : Int)) := hE.drew.cell 1
  have d2 : wa.cell? ⟨w.heap.size, 2, none⟩ = some (.int .u64 (x2 : Int)) := hE.cell 2
  have dd2 : wa.drew.cell? ⟨w.heap.size, 2, none⟩ = some (.int .u64 (x2 : Int)) := hE.drew.cell 2
  have d3 : wa.cell? ⟨w.heap.size, 3, none⟩ = some (.int .u64 (x3 : Int)) := hE.cell 3
  have dd3 : wa.drew.cell? ⟨w.heap.size, 3, none⟩ = some (.int .u64 (x3 : Int)) := hE.drew.cell 3
  have hgl := hC1.blk.lt
  have hel := hE.lt
  have hRd := rdW (w := wa) (t := 152) (K := 4) (vs := [.int .u64 (x0 : Int), .int .u64 (x1 : Int), .int .u64 (x2 : Int), .int .u64 (x3 : Int)]) rfl
  have HB2 := Lib.hid (hC1.new kb)
  have HKB := Lib.hid (ka.trans kb (fun _ _ h => h))
  have hb2 : base ≤ (wa.alloc (.cells #[.int .u64 (x0 : Int), .int .u64 (x1 : Int), .int .u64 (x2 : Int), .int .u64 (x3 : Int)] 152)).drew.heap.size := Nat.le_trans hbb HKB.out.size
  clear hE hC1 kb ka
  go_region_law (first
    | (refine step_append_rd _ rfl (.tmp 7) (.tmp 9) _ rfl base 152 i0 _ 4 32 Tryz.underlying155 hi0 hz0 hz1 hz2 rfl (by omega) A c n _ rfl HB2.out.own (some ⟨wa.heap.size, 0, none⟩) 1 1 [.int .u64 (x0 : Int), .int .u64 (x1 : Int), .int .u64 (x2 : Int), .int .u64 (x3 : Int)] rfl hRd.drew (by intro u hu; simp only [List.mem_cons, List.not_mem_nil, or_false] at hu; rcases hu with rfl | rfl | rfl | rfl <;> rfl) (by simp only [maxLen]; omega) (by omega) hb2 ?_
       intro A2 c2 w2 hown2 hg2 hat2
       have hblk := HB2.out.blk.grown hg2 (Ne.symm hfar)
       have e0 : w2.cell? ⟨g, 0, none⟩ = some (.slice A n c) := hblk.cell 0
       have ef : w2.frozen? ⟨g, 0, none⟩ = false := hblk.frozen 0
       have el := hblk.lt
       have HG2 := Lib.hid hg2
       have HO2 := Lib.hid hown2
       have HAT2 := Lib.hid hat2
       have HBL := Lib.hid hblk
       clear hg2 hown2 hat2 hblk))
  all_goals
    go_wp2_with fail
    go_end0
    have hfar1 := own_far HO2.out HBL.out (by decide)
    rw [ownBlock_slice] at hfar1
    have K3 := (Keeps.refl (fun k => k = g) w2).setCell (p := ⟨g, 0, none⟩) (.inl rfl) (.slice A2 (n + 1) c2)
    have kg : Keeps (fun k => k = g ∨ ob A = some k) w w2 := (HKB.out.mono (S' := fun k => k = g ∨ ob A = some k) (fun _ _ h => h.elim)).grown HG2.out (fun k hk => .inl (.inr hk))
    refine ⟨A2, c2, rfl, ⟨HBL.out.put 0 _, own_keeps HO2.out K3 (fun k hk h => by rw [ownBlock_slice] at hk; subst h; exact hfar1 hk), HB2.out.lo⟩, kg.trans K3 (fun i _ h => .inl h), ?_⟩
    rcases HAT2.out with h | h
    · exact .inl h
    · exact .inr (fun k hk => by rw [h] at hk; injection hk with hk; have := HKB.out.size; omega)
end Go.Proofs.YtmdmccjmmljbkaaGreat
