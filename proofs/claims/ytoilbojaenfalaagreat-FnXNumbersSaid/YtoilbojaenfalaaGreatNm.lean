/- A column of numbers of 32 bits: numbers appended, how many there are, encoded. Conditions: sizes far below the machine's. -/
import Derived.Test.YtoilbojaenfalaaGreatU32
import Derived.Test.YtoilbojaenfalaaGreatApp
import Derived.Test.YtoilbojaenfalaaGreatArr
import Derived.Test.YtoilbojaenfalaaGreatAe
import Derived.Test.YtoilbojaenfalaaGreatPre
namespace Go.Proofs.YtoilbojaenfalaaGreat
open Go.RowKit Go.Lib
set_option linter.unusedVariables false
theorem infoN : (Tryz.prog.info? 26).map (fun i => (i.zero, i.size, i.bytes)) = some (some (.int .u32 0), 1, 4) := by kernel_rfl
def nv (xs : List Nat) : List Value := xs.map fun x : Nat => .int .u32 (x : Int)
theorem nv_app (a b : List Nat) : nv (a ++ b) = nv a ++ nv b := by simp [nv]
theorem nv_one (xs : List Nat) : ∀ u ∈ nv xs, u.oneCell' = true := by
  intro u hu
  obtain ⟨x, _, rfl⟩ := List.mem_map.1 hu
  rfl
structure NumAt (w : World) (base g : Nat) (A : Option Addr) (c : Nat) (xs : List Nat) : Prop where
  blk : Whole w g 54 #[.slice A xs.length c]
  own : w.ownsRow base 26 1 (.slice A xs.length c) xs.length (nv xs)
  lo : base ≤ g
theorem NumAt.keeps {w w' : World} {base g c : Nat} {A : Option Addr} {xs : List Nat} {S : Nat → Prop} (h : NumAt w base g A c xs) (hk : Keeps S w w') (h1 : ¬ S g) (h2 : ∀ k, ob A = some k → ¬ S k) : NumAt w' base g A c xs :=
  ⟨h.blk.keeps hk h1, own_keeps h.own hk (by rw [ownBlock_slice]; exact h2), h.lo⟩
theorem NumAt.new {w w' : World} {base g c : Nat} {A : Option Addr} {xs : List Nat} (h : NumAt w base g A c xs) (hk : Keeps (fun _ => False) w w') : NumAt w' base g A c xs := h.keeps hk (fun h => h) (fun _ _ h => h)
theorem NumAt.lt {w : World} {base g c : Nat} {A : Option Addr} {xs : List Nat} (h : NumAt w base g A c xs) : g < w.heap.size ∧ ∀ k, ob A = some k → base ≤ k ∧ k < w.heap.size := by
  have h1 := h.own.lt
  rw [ownBlock_slice] at h1
  exact ⟨h.blk.lt, h1⟩
theorem numNew (w : World) {base : Nat} (h : base ≤ w.heap.size) : NumAt (w.alloc (.cells #[.slice none 0 0] 54)) base w.heap.size none 0 [] :=
  ⟨Whole.new w _ _, ⟨by simp [nv], .inl ⟨rfl, rfl⟩⟩, h⟩
def NumRes (w : World) (base g : Nat) (A : Option Addr) (xs : List Nat) (e : Ending) (w' : World) : Prop := ∃ A' c', e = .returned (.tuple #[]) ∧ NumAt w' base g A' c' xs ∧ Keeps (fun k => k = g ∨ ob A = some k) w w' ∧ (ob A' = ob A ∨ ∀ k, ob A' = some k → w.heap.size ≤ k)
set_option maxRecDepth 100000 in
set_option maxHeartbeats 1000000 in
theorem numAppendArr (w : World) (base g : Nat) (A : Option Addr) (c : Nat) (xs : List Nat) (E : Option Addr) (n k0 : Nat) (ys : List Nat) (hC : NumAt w base g A c xs) (hx : xs.length ≤ 1000000) (hn : n ≤ 1000000) (hl : ys.length = n) (hR : Rd w 1 E n (nv ys)) :
    Calls Tryz.prog 107 #[.pointer (some ⟨g, 0, none⟩), .slice E n k0] w fun e w' => NumRes w base g A (xs ++ ys) e w' := by
  obtain ⟨i0, hi0, hz0, hz1, hz2⟩ := info_parts infoN
  have hc : w.cell? ⟨g, 0, none⟩ = some (.slice A xs.length c) := hC.blk.cell 0
  have hlt := hC.blk.lt
  have hfar := own_far hC.own hC.blk (by decide)
  rw [ownBlock_slice] at hfar
  have hbb : base ≤ w.heap.size := Nat.le_trans hC.lo (Nat.le_of_lt hlt)
  have HL := Lib.hid hl
  have HC := Lib.hid hC
  clear hl hC
  generalize hll : xs.length = m at *
  have HLL := Lib.hid hll
  clear hll
  have hown : w.ownsRow base 26 1 (.slice A m c) m (nv xs) := by have := HC.out.own; rw [HLL.out] at this; exact this
  go_enter Tryz.func107, Tryz.ntmps107
  go_wp2_with (at_builtin
               first
               | (refine wpList_append_rd2 _ rfl (.tmp 7) (.tmp 8) _ _ rfl Tryz.underlying25 base 26 i0 _ 1 4 Tryz.underlying54 hi0 hz0 hz1 hz2 rfl (by omega) A c m (nv xs) rfl hown E n k0 (nv ys) rfl hR (nv_one ys) (by simp only [maxLen]; omega) (by omega) hbb ?_)
               intro A' c' w1 hown1 hg hat
               have hblk := HC.out.blk.grown hg (Ne.symm hfar)
               have hc1 : w1.cell? ⟨g, 0, none⟩ = some (.slice A m c) := by rw [hblk.cell 0, ← HC.out.blk.cell 0]; exact hc
               have hf1 : w1.frozen? ⟨g, 0, none⟩ = false := hblk.frozen 0
               have hl1 := hblk.lt)
  go_end0
  have hlen : (xs ++ ys).length = m + n := by rw [List.length_append, HLL.out, HL.out]
  have hfar1 := own_far hown1 hblk (by decide)
  rw [ownBlock_slice] at hfar1
  have K1 : Keeps (fun k => k = g ∨ ob A = some k) w w1 := (Keeps.refl _ w).grown hg (fun k hk => .inl (.inr hk))
  have K2 := (Keeps.refl (fun k => k = g) w1).setCell (p := ⟨g, 0, none⟩) (.inl rfl) (.slice A' (m + n) c')
  refine ⟨A', c', rfl, ⟨?_, ?_, HC.out.lo⟩, K1.trans K2 (fun _ _ h => .inl h), ?_⟩
  · rw [hlen]; exact hblk.put 0 _
  · rw [hlen, nv_app]; exact own_keeps hown1 K2 (fun k hk h => by rw [ownBlock_slice] at hk; exact hfar1 (h ▸ hk))
  · rcases hat with h | h
    · exact .inl h
    · exact .inr fun k hk => by rw [h] at hk; injection hk with hk; omega
theorem numRowsV (w : World) (A : Option Addr) (n c : Nat) : Calls Tryz.prog 111 #[.slice A n c] w fun e w' => e = .returned (.int .i64 n) ∧ Keeps (fun _ => False) w w' := by
  go_enter Tryz.func111, Tryz.ntmps111
  go_wp2
  go_ret
  exact ⟨rfl, Keeps.refl _ _⟩
theorem infoNm : (Tryz.prog.info? 54).map (·.size) = some 1 := by kernel_rfl
theorem iNmRows : (Tryz.prog.info? 53).map (fun i => (i.methods.find? (·.name == "Rows")).map (fun m => (m.path.toList.length, m.func))) = some (some (0, some (111, false))) := by kernel_rfl
theorem iNmEnc : (Tryz.prog.info? 53).map (fun i => (i.methods.find? (·.name == "EncodeColumn")).map (fun m => (m.path.toList.length, m.func))) = some (some (0, some (109, false))) := by kernel_rfl
theorem iNmApp : (Tryz.prog.info? 53).map (fun i => (i.methods.find? (·.name == "AppendArr")).map (fun m => (m.path.toList.length, m.func))) = some (some (0, some (107, true))) := by kernel_rfl
theorem mNmRows {w : World} {gs : Nat} {x : Value} (hW : Whole w gs 54 #[x]) (fuel : Nat) : (method (fuel + 1) 53 (.pointer (some ⟨gs, 0, none⟩)) "Rows").run Tryz.prog w = .ok (111, x) w := by
  obtain ⟨i, m, h1, h2, h3, h4⟩ := method_row iNmRows
  exact method_val h1 h2 h3 h4 Tryz.underlying53 (by have h0 : w.cell? ⟨gs, 0, none⟩ = some x := hW.cell 0; go_simp)
theorem mNmEnc {w : World} {gs : Nat} {x : Value} (hW : Whole w gs 54 #[x]) (fuel : Nat) : (method (fuel + 1) 53 (.pointer (some ⟨gs, 0, none⟩)) "EncodeColumn").run Tryz.prog w = .ok (109, x) w := by
  obtain ⟨i, m, h1, h2, h3, h4⟩ := method_row iNmEnc
  exact method_val h1 h2 h3 h4 Tryz.underlying53 (by have h0 : w.cell? ⟨gs, 0, none⟩ = some x := hW.cell 0; go_simp)
theorem mNmApp (w : World) (g : Nat) (fuel : Nat) : (method (fuel + 1) 53 (.pointer (some ⟨g, 0, none⟩)) "AppendArr").run Tryz.prog w = .ok (107, .pointer (some ⟨g, 0, none⟩)) w := by
  obtain ⟨i, m, h1, h2, h3, h4⟩ := method_row iNmApp
  exact method_ptr h1 h2 h3 h4 Tryz.underlying53
end Go.Proofs.YtoilbojaenfalaaGreat
