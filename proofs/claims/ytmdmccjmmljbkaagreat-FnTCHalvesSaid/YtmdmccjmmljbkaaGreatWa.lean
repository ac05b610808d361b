/- Wide numbers put into the middle of a row of bytes. Conditions: there is room. -/
import Derived.Test.YtmdmccjmmljbkaaGreatU64
import Derived.StillTailTactics
namespace Go.Proofs.YtmdmccjmmljbkaaGreat
open Go.RowKit Go.Lib
set_option linter.unusedVariables false
theorem puts_join {cs : Array Value} {o n : Nat} {a b : List Value} (hn : a.length = n) (h : o + a.length + b.length ≤ cs.size) : puts (puts cs (o + n) b) o a = puts cs o (a ++ b) := by
  subst hn
  have hs : cs.toList.length = cs.size := Array.length_toList
  have h1 : (cs.toList.take (o + a.length)).length = o + a.length := by rw [List.length_take]; omega
  have e1 := puts_list cs (o + a.length) b (by omega)
  have e2 := puts_list (puts cs (o + a.length) b) o a (by rw [puts_size]; omega)
  have e3 := puts_list cs o (a ++ b) (by rw [List.length_append]; omega)
  apply Array.ext'
  rw [e2, e3, e1, List.append_assoc (cs.toList.take (o + a.length)), List.take_append_of_le_length (by omega), List.take_take, Nat.min_eq_left (by omega), List.drop_left' h1, List.length_append, ← Nat.add_assoc]
  simp only [List.append_assoc]
theorem le8 (x : Nat) : (Lib.byteCells (leb 8 x)).length = 8 := by rw [Lib.byteCells_length, leb_length]
set_option maxRecDepth 100000 in
set_option maxHeartbeats 4000000 in
theorem binPutW2 (w : World) (g o c : Nat) (t : TypeId) (cs : Array Value) (x0 x1 : Nat) (hW : Whole w g t cs) (ho : o + 16 ≤ cs.size) (hc : 16 ≤ c) : Calls Tryz.prog 194 #[.slice (some ⟨g, o, none⟩) 16 c, .agg #[.int .u64 (x0 : Int), .int .u64 (x1 : Int)]] w fun e w' =>
    e = .returned (.tuple #[]) ∧ Whole w' g t (puts (puts cs (o + 8) (Lib.byteCells (leb 8 x1))) o (Lib.byteCells (leb 8 x0))) ∧ Keeps (fun k => k = g) w w' := by
  have hlt := hW.lt
  have hv := Whole.new w 146 #[.int .u64 (x0 : Int), .int .u64 (x1 : Int)]
  have K0 := (Keeps.refl (fun k => k = g) w).alloc (.cells #[.int .u64 (x0 : Int), .int .u64 (x1 : Int)] 146)
  have hWa := (hW.alloc (.cells #[.int .u64 (x0 : Int), .int .u64 (x1 : Int)] 146)).keeps ((Keeps.refl (fun _ => False) _).drew) (fun h => h)
  have nc0 : ¬ (c = 0) := by omega
  have ni0 : (8 : Int) ≤ (c : Int) := by omega
  have nc1 : ¬ (c = 8) := by omega
  have ni1 : (16 : Int) ≤ (c : Int) := by omega
  go_enter Tryz.func194, Tryz.ntmps194
  go_wp2_with fail
  have p1 : (w.alloc (.cells #[.int .u64 (x0 : Int), .int .u64 (x1 : Int)] 146)).cell? ⟨w.heap.size, 1, none⟩ = some (.int .u64 (x1 : Int)) := hv.cell 1
  generalize w.alloc (.cells #[.int .u64 (x0 : Int), .int .u64 (x1 : Int)] 146) = wa at *
  go_still_tail 5, (by kernel_rfl)
  change wpList _ _ _ _ _ wa.drew
  go_wp2_with fail
  refine (lePut64 _ g (o + 8) 8 (c - 8) t cs x1 hWa (by omega) (by first | omega | (simp only [puts_size]; omega))).mono ?_
  rintro e v0 ⟨rfl, hW0, K1⟩
  have k1 := K0.drew.trans K1 (fun _ _ h => h)
  have hv0 := (hv.keeps ((Keeps.refl (fun _ => False) _).drew) (fun h => h)).keeps K1 (by show ¬ w.heap.size = g; omega)
  have q0 : v0.cell? ⟨w.heap.size, 0, none⟩ = some (.int .u64 (x0 : Int)) := hv0.cell 0
  have hW0d := hW0.keeps ((Keeps.refl (fun _ => False) _).drew) (fun h => h)
  go_wp2_with fail
  go_still_tail 5, (by kernel_rfl)
  change wpList _ _ _ _ _ v0.drew
  go_wp2_with fail
  refine (lePut64 _ g o 8 c t (puts cs (o + 8) (Lib.byteCells (leb 8 x1))) x0 hW0d (by omega) (by first | omega | (simp only [puts_size]; omega))).mono ?_
  rintro e v1 ⟨rfl, hW1, K2⟩
  have k2 := k1.drew.trans K2 (fun _ _ h => h)
  go_wp2_with fail
  go_end0
  exact ⟨rfl, hW1, k2⟩
/-- The bytes of such a number. -/
def wB2 (x0 x1 : Nat) : List UInt8 := leb 8 x0 ++ leb 8 x1
theorem wB2_length (x0 x1 : Nat) : (wB2 x0 x1).length = 16 := by simp [wB2, leb_length]
theorem putW2In (w : World) (base n c o g : Nat) (x0 x1 : Nat) (ys : List Value) (h : w.ownsRow base 5 1 (.slice (some ⟨g, 0, none⟩) n c) n ys) (ho : o + 16 ≤ n) (k : Nat) (hk : 16 ≤ k) :
    Calls Tryz.prog 194 #[.slice (some ⟨g, o, none⟩) 16 k, .agg #[.int .u64 (x0 : Int), .int .u64 (x1 : Int)]] w fun e w' => e = .returned (.tuple #[]) ∧
      w'.ownsRow base 5 1 (.slice (some ⟨g, 0, none⟩) n c) n (ys.take o ++ Lib.byteCells (wB2 x0 x1) ++ ys.drop (o + 16)) ∧ Keeps (fun k => k = g) w w' := by
  obtain ⟨g', cs, hg, hb, hW, h1, h2, h3, h4⟩ := own_whole h (by omega)
  have hgg : g = g' := by injection hg with hg; injection hg
  subst hgg
  refine (binPutW2 w g o k 5 cs x0 x1 hW (by omega) hk).mono ?_
  rintro e w' ⟨rfl, hW', hK⟩
  have hl : (Lib.byteCells (wB2 x0 x1)).length = 16 := by rw [Lib.byteCells_length, wB2_length]
  rw [puts_join (le8 x0) (by rw [le8, le8]; omega), ← Lib.byteCells_append] at hW'
  have := own_puts hb hW' h1 h2 h3 h4 (by rw [show leb 8 x0 ++ leb 8 x1 = wB2 x0 x1 from rfl, hl]; omega)
  rw [show leb 8 x0 ++ leb 8 x1 = wB2 x0 x1 from rfl, hl] at this
  exact ⟨rfl, this, hK⟩
set_option maxRecDepth 100000 in
set_option maxHeartbeats 4000000 in
theorem binPutW4 (w : World) (g o c : Nat) (t : TypeId) (cs : Array Value) (x0 x1 x2 x3 : Nat) (hW : Whole w g t cs) (ho : o + 32 ≤ cs.size) (hc : 32 ≤ c) : Calls Tryz.prog 205 #[.slice (some ⟨g, o, none⟩) 32 c, .agg #[.int .u64 (x0 : Int), .int .u64 (x1 : Int), .int .u64 (x2 : Int), .int .u64 (x3 : Int)]] w fun e w' =>
    e = .returned (.tuple #[]) ∧ Whole w' g t (puts (puts (puts (puts cs (o + 24) (Lib.byteCells (leb 8 x3))) (o + 16) (Lib.byteCells (leb 8 x2))) (o + 8) (Lib.byteCells (leb 8 x1))) o (Lib.byteCells (leb 8 x0))) ∧ Keeps (fun k => k = g) w w' := by
  have hlt := hW.lt
  have hv := Whole.new w 227 #[.int .u64 (x0 : Int), .int .u64 (x1 : Int), .int .u64 (x2 : Int), .int .u64 (x3 : Int)]
  have K0 := (Keeps.refl (fun k => k = g) w).alloc (.cells #[.int .u64 (x0 : Int), .int .u64 (x1 : Int), .int .u64 (x2 : Int), .int .u64 (x3 : Int)] 227)
  have hWa := (hW.alloc (.cells #[.int .u64 (x0 : Int), .int .u64 (x1 : Int), .int .u64 (x2 : Int), .int .u64 (x3 : Int)] 227)).keeps ((Keeps.refl (fun _ => False) _).drew) (fun h => h)
  have nc0 : ¬ (c = 0) := by omega
  have ni0 : (8 : Int) ≤ (c : Int) := by omega
  have nc1 : ¬ (c = 8) := by omega
  have ni1 : (16 : Int) ≤ (c : Int) := by omega
  have nc2 : ¬ (c = 16) := by omega
  have ni2 : (24 : Int) ≤ (c : Int) := by omega
  have nc3 : ¬ (c = 24) := by omega
  have ni3 : (32 : Int) ≤ (c : Int) := by omega
  go_enter Tryz.func205, Tryz.ntmps205
  go_wp2_with fail
  have p1 : (w.alloc (.cells #[.int .u64 (x0 : Int), .int .u64 (x1 : Int), .int .u64 (x2 : Int), .int .u64 (x3 : Int)] 227)).cell? ⟨w.heap.size, 3, none⟩ = some (.int .u64 (x3 : Int)) := hv.cell 3
  generalize w.alloc (.cells #[.int .u64 (x0 : Int), .int .u64 (x1 : Int), .int .u64 (x2 : Int), .int .u64 (x3 : Int)] 227) = wa at *
  go_still_tail 6, (by kernel_rfl)
  change wpList _ _ _ _ _ wa.drew
  go_wp2_with fail
  refine (lePut64 _ g (o + 24) 8 (c - 24) t cs x3 hWa (by omega) (by first | omega | (simp only [puts_size]; omega))).mono ?_
  rintro e v0 ⟨rfl, hW0, K1⟩
  have k1 := K0.drew.trans K1 (fun _ _ h => h)
  have hv0 := (hv.keeps ((Keeps.refl (fun _ => False) _).drew) (fun h => h)).keeps K1 (by show ¬ w.heap.size = g; omega)
  have q0 : v0.cell? ⟨w.heap.size, 2, none⟩ = some (.int .u64 (x2 : Int)) := hv0.cell 2
  have hW0d := hW0.keeps ((Keeps.refl (fun _ => False) _).drew) (fun h => h)
  go_wp2_with fail
  go_still_tail 6, (by kernel_rfl)
  change wpList _ _ _ _ _ v0.drew
  go_wp2_with fail
  refine (lePut64 _ g (o + 16) 8 (c - 16) t (puts cs (o + 24) (Lib.byteCells (leb 8 x3))) x2 hW0d (by omega) (by first | omega | (simp only [puts_size]; omega))).mono ?_
  rintro e v1 ⟨rfl, hW1, K2⟩
  have k2 := k1.drew.trans K2 (fun _ _ h => h)
  have hv1 := (hv0.keeps ((Keeps.refl (fun _ => False) _).drew) (fun h => h)).keeps K2 (by show ¬ w.heap.size = g; omega)
  have q1 : v1.cell? ⟨w.heap.size, 1, none⟩ = some (.int .u64 (x1 : Int)) := hv1.cell 1
  have hW1d := hW1.keeps ((Keeps.refl (fun _ => False) _).drew) (fun h => h)
  go_wp2_with fail
  go_still_tail 6, (by kernel_rfl)
  change wpList _ _ _ _ _ v1.drew
  go_wp2_with fail
  refine (lePut64 _ g (o + 8) 8 (c - 8) t (puts (puts cs (o + 24) (Lib.byteCells (leb 8 x3))) (o + 16) (Lib.byteCells (leb 8 x2))) x1 hW1d (by omega) (by first | omega | (simp only [puts_size]; omega))).mono ?_
  rintro e v2 ⟨rfl, hW2, K3⟩
  have k3 := k2.drew.trans K3 (fun _ _ h => h)
  have hv2 := (hv1.keeps ((Keeps.refl (fun _ => False) _).drew) (fun h => h)).keeps K3 (by show ¬ w.heap.size = g; omega)
  have q2 : v2.cell? ⟨w.heap.size, 0, none⟩ = some (.int .u64 (x0 : Int)) := hv2.cell 0
  have hW2d := hW2.keeps ((Keeps.refl (fun _ => False) _).drew) (fun h => h)
  go_wp2_with fail
  go_still_tail 6, (by kernel_rfl)
  change wpList _ _ _ _ _ v2.drew
  go_wp2_with fail
  refine (lePut64 _ g o 8 c t (puts (puts (puts cs (o + 24) (Lib.byteCells (leb 8 x3))) (o + 16) (Lib.byteCells (leb 8 x2))) (o + 8) (Lib.byteCells (leb 8 x1))) x0 hW2d (by omega) (by first | omega | (simp only [puts_size]; omega))).mono ?_
  rintro e v3 ⟨rfl, hW3, K4⟩
  have k4 := k3.drew.trans K4 (fun _ _ h => h)
  go_wp2_with fail
  go_end0
  exact ⟨rfl, hW3, k4⟩
/-- The bytes of such a number. -/
def wB4 (x0 x1 x2 x3 : Nat) : List UInt8 := leb 8 x0 ++ leb 8 x1 ++ leb 8 x2 ++ leb 8 x3
theorem wB4_length (x0 x1 x2 x3 : Nat) : (wB4 x0 x1 x2 x3).length = 32 := by simp [wB4, leb_length]
theorem putW4In (w : World) (base n c o g : Nat) (x0 x1 x2 x3 : Nat) (ys : List Value) (h : w.ownsRow base 5 1 (.slice (some ⟨g, 0, none⟩) n c) n ys) (ho : o + 32 ≤ n) (k : Nat) (hk : 32 ≤ k) :
    Calls Tryz.prog 205 #[.slice (some ⟨g, o, none⟩) 32 k, .agg #[.int .u64 (x0 : Int), .int .u64 (x1 : Int), .int .u64 (x2 : Int), .int .u64 (x3 : Int)]] w fun e w' => e = .returned (.tuple #[]) ∧
      w'.ownsRow base 5 1 (.slice (some ⟨g, 0, none⟩) n c) n (ys.take o ++ Lib.byteCells (wB4 x0 x1 x2 x3) ++ ys.drop (o + 32)) ∧ Keeps (fun k => k = g) w w' := by
  obtain ⟨g', cs, hg, hb, hW, h1, h2, h3, h4⟩ := own_whole h (by omega)
  have hgg : g = g' := by injection hg with hg; injection hg
  subst hgg
  refine (binPutW4 w g o k 5 cs x0 x1 x2 x3 hW (by omega) hk).mono ?_
  rintro e w' ⟨rfl, hW', hK⟩
  have hl : (Lib.byteCells (wB4 x0 x1 x2 x3)).length = 32 := by rw [Lib.byteCells_length, wB4_length]
  rw [show o + 24 = o + 16 + 8 by omega, puts_join (o := o + 16) (le8 x2) (by rw [le8, le8]; omega), show o + 16 = o + 8 + 8 by omega, puts_join (o := o + 8) (le8 x1) (by rw [List.length_append, le8, le8, le8]; omega), puts_join (o := o) (le8 x0) (by rw [List.length_append, List.length_append, le8, le8, le8, le8]; omega), ← Lib.byteCells_append, ← Lib.byteCells_append, ← Lib.byteCells_append] at hW'
  rw [show leb 8 x0 ++ (leb 8 x1 ++ (leb 8 x2 ++ leb 8 x3)) = wB4 x0 x1 x2 x3 by simp [wB4]] at hW'
  have := own_puts hb hW' h1 h2 h3 h4 (by rw [hl]; omega)
  rw [hl] at this
  exact ⟨rfl, this, hK⟩
end Go.Proofs.YtmdmccjmmljbkaaGreat
