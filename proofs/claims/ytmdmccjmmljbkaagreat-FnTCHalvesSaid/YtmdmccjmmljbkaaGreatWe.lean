/- Columns of wide numbers encoded into a buffer: each number's words. Conditions: sizes far below the machine's; the column's row lies apart from the buffer's. -/
import Derived.Test.YtmdmccjmmljbkaaGreatWa
import Derived.Test.YtmdmccjmmljbkaaGreatW4
import Derived.Deep.RegionWith
import Derived.Deep.RegionLaw
import Derived.Deep.RegionHeld3
import Derived.StillTailTactics
namespace Go.Proofs.YtmdmccjmmljbkaaGreat
open Go.RowKit Go.Lib
set_option linter.unusedVariables false
def wb2 (x : W2) : List UInt8 := wB2 x.1 x.2
def wbs2 (l : List W2) : List UInt8 := (l.map wb2).flatten
theorem wbs2_length (l : List W2) : (wbs2 l).length = 16 * l.length := by
  induction l with
  | nil => rfl
  | cons x r ih => rw [wbs2, List.map_cons, List.flatten_cons, List.length_append, wb2, wB2_length, ← wbs2, ih, List.length_cons]; omega
theorem wbs2_snoc (l : List W2) (x : W2) : wbs2 (l ++ [x]) = wbs2 l ++ wb2 x := by simp [wbs2]
theorem zer_step2 (l d : List UInt8) (m : Nat) (hd : d.length = 16) (hm : 16 ≤ m) : ((Lib.byteCells l ++ zer m).take l.length ++ Lib.byteCells d ++ (Lib.byteCells l ++ zer m).drop (l.length + 16)) = Lib.byteCells (l ++ d) ++ zer (m - 16) := by
  have hl : (Lib.byteCells l).length = l.length := Lib.byteCells_length l
  rw [← hl, List.take_left, List.drop_append, List.drop_of_length_le (by omega), List.nil_append, Nat.add_sub_cancel_left, Lib.byteCells_append, zer, List.drop_replicate, ← zer]
def wb4 (x : W4) : List UInt8 := wB4 x.1 x.2.1 x.2.2.1 x.2.2.2
def wbs4 (l : List W4) : List UInt8 := (l.map wb4).flatten
theorem wbs4_length (l : List W4) : (wbs4 l).length = 32 * l.length := by
  induction l with
  | nil => rfl
  | cons x r ih => rw [wbs4, List.map_cons, List.flatten_cons, List.length_append, wb4, wB4_length, ← wbs4, ih, List.length_cons]; omega
theorem wbs4_snoc (l : List W4) (x : W4) : wbs4 (l ++ [x]) = wbs4 l ++ wb4 x := by simp [wbs4]
theorem zer_step4 (l d : List UInt8) (m : Nat) (hd : d.length = 32) (hm : 32 ≤ m) : ((Lib.byteCells l ++ zer m).take l.length ++ Lib.byteCells d ++ (Lib.byteCells l ++ zer m).drop (l.length + 32)) = Lib.byteCells (l ++ d) ++ zer (m - 32) := by
  have hl : (Lib.byteCells l).length = l.length := Lib.byteCells_length l
  rw [← hl, List.take_left, List.drop_append, List.drop_of_length_le (by omega), List.nil_append, Nat.add_sub_cancel_left, Lib.byteCells_append, zer, List.drop_replicate, ← zer]
/-- Within the loop: k numbers are laid, the others are zeros yet. -/
structure AtDecimal128 (w wr : World) (base bb g1 N k1 n k : Nat) (A : Option Addr) (l : List UInt8) (xs : List W2) : Prop where
  blk : Whole wr bb 47 #[.slice (some ⟨g1, 0, none⟩) N k1]
  own : wr.ownsRow base 5 1 (.slice (some ⟨g1, 0, none⟩) N k1) N (Lib.byteCells (l ++ wbs2 (xs.take k)) ++ zer (16 * (n - k)))
  keeps : Keeps (fun i => i = bb ∨ ob A = some i) w wr

def ResDecimal128 (w : World) (base bb : Nat) (A : Option Addr) (l : List UInt8) (xs : List W2) (e : Ending) (w' : World) : Prop := ∃ A' c', e = .returned (.tuple #[]) ∧ Put w w' base bb A A' c' (l ++ wbs2 xs)

set_option maxRecDepth 100000 in
set_option maxHeartbeats 2000000 in
theorem encDecimal128 (w : World) (base bb : Nat) (A : Option Addr) (c : Nat) (l : List UInt8) (C : Option Addr) (n k0 : Nat) (xs : List W2) (hB : BufAt w base bb A c l) (hn : l.length ≤ 1000000000) (hl : xs.length = n) (hnn : n ≤ 1000000) (hR : Rd w 2 C n (xs.map wc2).flatten) (hC : ∀ k, ob C = some k → k ≠ bb ∧ ob A ≠ some k) :
    Calls Tryz.prog 188 #[.slice C n k0, .pointer (some ⟨bb, 0, none⟩)] w fun e w' => ResDecimal128 w base bb A l xs e w' := by
  obtain ⟨i0, hi0, hz0, hz1, hz2⟩ := info_parts infoU8
  have hlt := hB.blk.lt
  have hbase : base ≤ w.heap.size := by have := hB.lo; omega
  have nA := hB.far
  have c0 : w.cell? ⟨bb, 0, none⟩ = some (.slice A l.length c) := hB.blk.cell 0
  have HB := Lib.hid hB
  have HR := Lib.hid hR
  have HL := Lib.hid hl
  have HC := Lib.hid hC
  have HO := Lib.hid (show w.ownsRow base 5 1 (.slice A l.length c) l.length (Lib.byteCells l) from hB.own)
  have HW := Lib.hid (show Whole w bb 47 #[.slice A l.length c] from hB.blk)
  clear hB hR hl hC
  generalize hM : l.length = M at *
  have HM := Lib.hid hM
  clear hM
  by_cases h0 : n = 0
  · subst h0
    go_enter Tryz.func188, Tryz.ntmps188
    go_wp2_with fail
    go_end0
    have hx : xs = [] := List.eq_nil_of_length_eq_zero HL.out
    subst hx
    refine ⟨A, c, rfl, ⟨by simpa [wbs2] using HB.out, (Keeps.refl _ _), .inl rfl⟩⟩
  · go_enter Tryz.func188, Tryz.ntmps188
    go_wp2_with (first
      | (at_builtin
         refine wpList_append_zeros _ rfl (.tmp 21) (.tmp 24) _ _ rfl base 5 i0 .i64 .i64 Tryz.underlying25 Tryz.underlying3 hi0 hz0 hz1 hz2 (.slice A M c) M _ rfl HO.out (16 * n) _ rfl (congrArg (Value.int .i64) (Int.natCast_mul 16 n).symm) (by omega) (by simp only [maxLen]; omega) (by omega) hbase ?_
         intro V1 w1 o1 hg1 hat1
         rw [ownBlock_slice] at hg1 hat1
         obtain ⟨g1, k1, hV1, hgl, hgs⟩ := o1.form (by omega)
         subst hV1
         have K1 := (Keeps.refl (fun i => ob A = some i) w).grown hg1 (fun k hk => .inl hk)
         have hb1 := HW.out.keeps K1 nA
         have e0 : w1.cell? ⟨bb, 0, none⟩ = some (.slice A M c) := hb1.cell 0
         have f0 : w1.frozen? ⟨bb, 0, none⟩ = false := hb1.frozen 0
         have hl1 := hb1.lt
         have HAT := Lib.hid hat1
         clear hat1))
    have nA1 : g1 ≠ bb := by have := own_far o1 hb1 (by decide); rw [ownBlock_slice] at this; exact fun h => this (by rw [h]; rfl)
    have K2 := (Keeps.refl (fun i => i = bb) w1).setCell (p := ⟨bb, 0, none⟩) (.inl rfl) (.slice (some ⟨g1, 0, none⟩) (M + 16 * n) k1)
    have hb2 := hb1.put 0 (.slice (some ⟨g1, 0, none⟩) (M + 16 * n) k1)
    have o2 := own_keeps o1 K2 (fun k hk h => by rw [ownBlock_slice] at hk; injection hk with hk; exact nA1 (hk.trans h))
    have K3 : Keeps (fun i => i = bb ∨ ob A = some i) w (w1.setCell ⟨bb, 0, none⟩ (.slice (some ⟨g1, 0, none⟩) (M + 16 * n) k1)) := (K1.mono (S' := fun i => i = bb ∨ ob A = some i) (fun _ _ h => .inr h)).trans K2 (fun _ _ h => .inl h)
    have HS := Lib.hid (show AtDecimal128 w (w1.setCell ⟨bb, 0, none⟩ (.slice (some ⟨g1, 0, none⟩) (M + 16 * n) k1)) base bb g1 (M + 16 * n) k1 n 0 A l xs from ⟨hb2, by simpa [wbs2] using o2, K3⟩)
    have HG : Hid (∀ i, i < w.heap.size → i = g1 → ob A = some i) := Lib.hid (by
      rintro i hi rfl
      rcases HAT.out with h | h
      · rw [← h, ownBlock_slice]; rfl
      · rw [ownBlock_slice] at h
        have h2 : some i = some w.heap.size := h
        injection h2 with h2
        omega)
    clear o1 hb1 e0 f0 hl1 hb2 o2 K1 K2 K3
    go_loopw [5, 7, 30] (fun o v i wr => ∃ k p : Nat, k ≤ n ∧ p = M + 16 * k ∧ o = .int .i64 p ∧ i = .int .i64 k ∧ AtDecimal128 w wr base bb g1 (M + 16 * n) k1 n k A l xs) (fun _ _ i _ => n - (RowKit.intOf i).toNat)
    case atStart => exact ⟨0, M, Nat.zero_le _, rfl, rfl, rfl, HS.out⟩
    case round =>
      obtain ⟨k, p, hk, hp, rfl, rfl, hP⟩ := hrel
      have HP := Lib.hid hP
      clear hP
      have hcb : wr.cell? ⟨bb, 0, none⟩ = some (.slice (some ⟨g1, 0, none⟩) (M + 16 * n) k1) := HP.out.blk.cell 0
      by_cases hlt : k < n
      · obtain ⟨x, hx⟩ : ∃ x, xs[k]? = some x := ⟨_, List.getElem?_eq_getElem (by rw [HL.out]; exact hlt)⟩
        have HT := Lib.hid (show xs.take (k + 1) = xs.take k ++ [x] by rw [List.take_add_one, hx]; simp)
        have hRw : Rd wr 2 C n (xs.map wc2).flatten := HR.out.keeps HP.out.keeps (fun i hi h => by
          obtain ⟨h1, h2⟩ := HC.out i hi
          rcases h with h | h
          · exact h1 h
          · exact h2 h)
        obtain ⟨ad, rfl, hb, hcell⟩ := rowsK wc2 wc2_len HL.out hRw hx
        obtain ⟨x0, x1⟩ := x
        have z0 : wr.cell? (ad.add (k * 2)) = some (.int .u64 (x0 : Int)) := hcell 0 _ rfl
        have z1 : wr.cell? ⟨(ad.add (k * 2)).block, (ad.add (k * 2)).off + 1, none⟩ = some (.int .u64 (x1 : Int)) := hcell 1 _ rfl
        clear hx hRw hcell
        have hcm : M + 16 * n ≤ k1 ∧ k1 ≤ 9223372036854775807 := by
          obtain ⟨_, _, _, _, _, h1, h2, _, _⟩ := own_whole HP.out.own (by omega)
          exact ⟨h1, h2⟩
        obtain ⟨hcap, hmax⟩ := hcm
        have f1 : (p : Int) + 16 ≤ (k1 : Int) := by omega
        have f0 : IntKind.i64.wrap ((p : Int) + 16) = (p : Int) + 16 := by rw [IntKind.wrap_i64]; omega
        have f2 : (p : Int) ≤ (p : Int) + 16 := by omega
        have f3 : ¬ (k1 = p) := by omega
        have f4 : ((p : Int) + 16).toNat = p + 16 := by omega
        have f5 : (0 : Int) ≤ (p : Int) + 16 := by omega
        have f6 : p + 16 ≤ M + 16 * n := by omega
        have HPP := Lib.hid hp
        clear hp
        go_wp2_with fail
        have hA := HP.out.blk.alloc (.cells #[.int .u64 (x0 : Int), .int .u64 (x1 : Int)] 142)
        have hoA := own_keeps HP.out.own ((Keeps.refl (fun _ => False) wr).alloc (.cells #[.int .u64 (x0 : Int), .int .u64 (x1 : Int)] 142)) (fun _ _ h => h)
        have hKA := Lib.hid (HP.out.keeps.alloc (.cells #[.int .u64 (x0 : Int), .int .u64 (x1 : Int)] 142))
        have hE := Whole.new wr 142 #[.int .u64 (x0 : Int), .int .u64 (x1 : Int)]
        generalize wr.alloc (.cells #[.int .u64 (x0 : Int), .int .u64 (x1 : Int)] 142) = wa at *
        have hcb2 : wa.cell? ⟨bb, 0, none⟩ = some (.slice (some ⟨g1, 0, none⟩) (M + 16 * n) k1) := hA.cell 0
        have e0 : wa.cell? ⟨wr.heap.size, 0, none⟩ = some (.int .u64 (x0 : Int)) := hE.cell 0
        have e1 : wa.cell? ⟨wr.heap.size, 1, none⟩ = some (.int .u64 (x1 : Int)) := hE.cell 1
        have hEl := hE.lt
        have hAl := hA.lt
        have HA := Lib.hid hA
        have HOA := Lib.hid hoA
        clear hA hoA hE hcb
        go_still_tail 9, (by kernel_rfl)
        change wpList _ _ _ _ _ wa.drew
        go_wp2_with fail
        refine (putW2In wa.drew base (M + 16 * n) k1 p g1 x0 x1 _ HOA.out.drew f6 (k1 - p) (by omega)).mono ?_
        rintro e w2 ⟨rfl, o2, K2⟩
        all_goals
          have hb2 := HA.out.drew.keeps K2 (fun h => nA1 h.symm)
          have hlen : (l ++ wbs2 (xs.take k)).length = p := by rw [List.length_append, wbs2_length, List.length_take, HL.out, HM.out, HPP.out, Nat.min_eq_left hk]
          have hz := zer_step2 (l ++ wbs2 (xs.take k)) (wB2 x0 x1) (16 * (n - k)) (wB2_length ..) (by omega)
          rw [hlen] at hz
          rw [hz, List.append_assoc, show wB2 x0 x1 = wb2 (x0, x1) from rfl, ← wbs2_snoc, ← HT.out, show 16 * (n - k) - 16 = 16 * (n - (k + 1)) by omega] at o2
          go_wp2_with fail
          go_roundw
          case rel => exact ⟨k + 1, p + 16, by omega, by have := HPP.out; omega, by go_num, by go_num, hb2, o2, hKA.out.drew.trans K2 (fun i hi h => .inr (HG.out i hi h))⟩
          case measure => (first | (simp [RowKit.intOf]; done) | (simp [RowKit.intOf]; omega))
      · have hkn : k = n := by omega
        subst hkn
        go_wp2_with fail
        go_end0
        have hlen : (l ++ wbs2 xs).length = M + 16 * k := by rw [List.length_append, wbs2_length, HL.out, HM.out]
        have ho := HP.out.own
        rw [List.take_of_length_le (by rw [HL.out]; exact Nat.le_refl _), Nat.sub_self, Nat.mul_zero, zer, List.replicate_zero, List.append_nil] at ho
        refine ⟨some ⟨g1, 0, none⟩, k1, rfl, ⟨⟨?_, ?_, HB.out.lo⟩, HP.out.keeps, ?_⟩⟩
        · rw [hlen]
          exact HP.out.blk
        · rw [hlen]
          exact ho
        · rcases HAT.out with h | h
          · exact .inl (by rw [← h, ownBlock_slice])
          · exact .inr fun i hi => by
              rw [ownBlock_slice] at h
              rw [h] at hi
              injection hi with hi
              omega
/-- Within the loop: k numbers are laid, the others are zeros yet. -/
structure AtDecimal256 (w wr : World) (base bb g1 N k1 n k : Nat) (A : Option Addr) (l : List UInt8) (xs : List W4) : Prop where
  blk : Whole wr bb 47 #[.slice (some ⟨g1, 0, none⟩) N k1]
  own : wr.ownsRow base 5 1 (.slice (some ⟨g1, 0, none⟩) N k1) N (Lib.byteCells (l ++ wbs4 (xs.take k)) ++ zer (32 * (n - k)))
  keeps : Keeps (fun i => i = bb ∨ ob A = some i) w wr

def ResDecimal256 (w : World) (base bb : Nat) (A : Option Addr) (l : List UInt8) (xs : List W4) (e : Ending) (w' : World) : Prop := ∃ A' c', e = .returned (.tuple #[]) ∧ Put w w' base bb A A' c' (l ++ wbs4 xs)

set_option maxRecDepth 100000 in
set_option maxHeartbeats 2000000 in
theorem encDecimal256 (w : World) (base bb : Nat) (A : Option Addr) (c : Nat) (l : List UInt8) (C : Option Addr) (n k0 : Nat) (xs : List W4) (hB : BufAt w base bb A c l) (hn : l.length ≤ 1000000000) (hl : xs.length = n) (hnn : n ≤ 1000000) (hR : Rd w 4 C n (xs.map wc4).flatten) (hC : ∀ k, ob C = some k → k ≠ bb ∧ ob A ≠ some k) :
    Calls Tryz.prog 199 #[.slice C n k0, .pointer (some ⟨bb, 0, none⟩)] w fun e w' => ResDecimal256 w base bb A l xs e w' := by
  obtain ⟨i0, hi0, hz0, hz1, hz2⟩ := info_parts infoU8
  have hlt := hB.blk.lt
  have hbase : base ≤ w.heap.size := by have := hB.lo; omega
  have nA := hB.far
  have c0 : w.cell? ⟨bb, 0, none⟩ = some (.slice A l.length c) := hB.blk.cell 0
  have HB := Lib.hid hB
  have HR := Lib.hid hR
  have HL := Lib.hid hl
  have HC := Lib.hid hC
  have HO := Lib.hid (show w.ownsRow base 5 1 (.slice A l.length c) l.length (Lib.byteCells l) from hB.own)
  have HW := Lib.hid (show Whole w bb 47 #[.slice A l.length c] from hB.blk)
  clear hB hR hl hC
  generalize hM : l.length = M at *
  have HM := Lib.hid hM
  clear hM
  by_cases h0 : n = 0
  · subst h0
    go_enter Tryz.func199, Tryz.ntmps199
    go_wp2_with fail
    go_end0
    have hx : xs = [] := List.eq_nil_of_length_eq_zero HL.out
    subst hx
    refine ⟨A, c, rfl, ⟨by simpa [wbs4] using HB.out, (Keeps.refl _ _), .inl rfl⟩⟩
  · go_enter Tryz.func199, Tryz.ntmps199
    go_wp2_with (first
      | (at_builtin
         refine wpList_append_zeros _ rfl (.tmp 21) (.tmp 24) _ _ rfl base 5 i0 .i64 .i64 Tryz.underlying25 Tryz.underlying3 hi0 hz0 hz1 hz2 (.slice A M c) M _ rfl HO.out (32 * n) _ rfl (congrArg (Value.int .i64) (Int.natCast_mul 32 n).symm) (by omega) (by simp only [maxLen]; omega) (by omega) hbase ?_
         intro V1 w1 o1 hg1 hat1
         rw [ownBlock_slice] at hg1 hat1
         obtain ⟨g1, k1, hV1, hgl, hgs⟩ := o1.form (by omega)
         subst hV1
         have K1 := (Keeps.refl (fun i => ob A = some i) w).grown hg1 (fun k hk => .inl hk)
         have hb1 := HW.out.keeps K1 nA
         have e0 : w1.cell? ⟨bb, 0, none⟩ = some (.slice A M c) := hb1.cell 0
         have f0 : w1.frozen? ⟨bb, 0, none⟩ = false := hb1.frozen 0
         have hl1 := hb1.lt
         have HAT := Lib.hid hat1
         clear hat1))
    have nA1 : g1 ≠ bb := by have := own_far o1 hb1 (by decide); rw [ownBlock_slice] at this; exact fun h => this (by rw [h]; rfl)
    have K2 := (Keeps.refl (fun i => i = bb) w1).setCell (p := ⟨bb, 0, none⟩) (.inl rfl) (.slice (some ⟨g1, 0, none⟩) (M + 32 * n) k1)
    have hb2 := hb1.put 0 (.slice (some ⟨g1, 0, none⟩) (M + 32 * n) k1)
    have o2 := own_keeps o1 K2 (fun k hk h => by rw [ownBlock_slice] at hk; injection hk with hk; exact nA1 (hk.trans h))
    have K3 : Keeps (fun i => i = bb ∨ ob A = some i) w (w1.setCell ⟨bb, 0, none⟩ (.slice (some ⟨g1, 0, none⟩) (M + 32 * n) k1)) := (K1.mono (S' := fun i => i = bb ∨ ob A = some i) (fun _ _ h => .inr h)).trans K2 (fun _ _ h => .inl h)
    have HS := Lib.hid (show AtDecimal256 w (w1.setCell ⟨bb, 0, none⟩ (.slice (some ⟨g1, 0, none⟩) (M + 32 * n) k1)) base bb g1 (M + 32 * n) k1 n 0 A l xs from ⟨hb2, by simpa [wbs4] using o2, K3⟩)
    have HG : Hid (∀ i, i < w.heap.size → i = g1 → ob A = some i) := Lib.hid (by
      rintro i hi rfl
      rcases HAT.out with h | h
      · rw [← h, ownBlock_slice]; rfl
      · rw [ownBlock_slice] at h
        have h2 : some i = some w.heap.size := h
        injection h2 with h2
        omega)
    clear o1 hb1 e0 f0 hl1 hb2 o2 K1 K2 K3
    go_loopw [5, 7, 30] (fun o v i wr => ∃ k p : Nat, k ≤ n ∧ p = M + 32 * k ∧ o = .int .i64 p ∧ i = .int .i64 k ∧ AtDecimal256 w wr base bb g1 (M + 32 * n) k1 n k A l xs) (fun _ _ i _ => n - (RowKit.intOf i).toNat)
    case atStart => exact ⟨0, M, Nat.zero_le _, rfl, rfl, rfl, HS.out⟩
    case round =>
      obtain ⟨k, p, hk, hp, rfl, rfl, hP⟩ := hrel
      have HP := Lib.hid hP
      clear hP
      have hcb : wr.cell? ⟨bb, 0, none⟩ = some (.slice (some ⟨g1, 0, none⟩) (M + 32 * n) k1) := HP.out.blk.cell 0
      by_cases hlt : k < n
      · obtain ⟨x, hx⟩ : ∃ x, xs[k]? = some x := ⟨_, List.getElem?_eq_getElem (by rw [HL.out]; exact hlt)⟩
        have HT := Lib.hid (show xs.take (k + 1) = xs.take k ++ [x] by rw [List.take_add_one, hx]; simp)
        have hRw : Rd wr 4 C n (xs.map wc4).flatten := HR.out.keeps HP.out.keeps (fun i hi h => by
          obtain ⟨h1, h2⟩ := HC.out i hi
          rcases h with h | h
          · exact h1 h
          · exact h2 h)
        obtain ⟨ad, rfl, hb, hcell⟩ := rowsK wc4 wc4_len HL.out hRw hx
        obtain ⟨x0, x1, x2, x3⟩ := x
        have z0 : wr.cell? (ad.add (k * 4)) = some (.int .u64 (x0 : Int)) := hcell 0 _ rfl
        have z1 : wr.cell? ⟨(ad.add (k * 4)).block, (ad.add (k * 4)).off + 1, none⟩ = some (.int .u64 (x1 : Int)) := hcell 1 _ rfl
        have z2 : wr.cell? ⟨(ad.add (k * 4)).block, (ad.add (k * 4)).off + 2, none⟩ = some (.int .u64 (x2 : Int)) := hcell 2 _ rfl
        have z3 : wr.cell? ⟨(ad.add (k * 4)).block, (ad.add (k * 4)).off + 3, none⟩ = some (.int .u64 (x3 : Int)) := hcell 3 _ rfl
        clear hx hRw hcell
        have hcm : M + 32 * n ≤ k1 ∧ k1 ≤ 9223372036854775807 := by
          obtain ⟨_, _, _, _, _, h1, h2, _, _⟩ := own_whole HP.out.own (by omega)
          exact ⟨h1, h2⟩
        obtain ⟨hcap, hmax⟩ := hcm
        have f1 : (p : Int) + 32 ≤ (k1 : Int) := by omega
        have f0 : IntKind.i64.wrap ((p : Int) + 32) = (p : Int) + 32 := by rw [IntKind.wrap_i64]; omega
        have f2 : (p : Int) ≤ (p : Int) + 32 := by omega
        have f3 : ¬ (k1 = p) := by omega
        have f4 : ((p : Int) + 32).toNat = p + 32 := by omega
        have f5 : (0 : Int) ≤ (p : Int) + 32 := by omega
        have f6 : p + 32 ≤ M + 32 * n := by omega
        have HPP := Lib.hid hp
        clear hp
        go_wp2_with fail
        have hA := HP.out.blk.alloc (.cells #[.int .u64 (x0 : Int), .int .u64 (x1 : Int), .int .u64 (x2 : Int), .int .u64 (x3 : Int)] 152)
        have hoA := own_keeps HP.out.own ((Keeps.refl (fun _ => False) wr).alloc (.cells #[.int .u64 (x0 : Int), .int .u64 (x1 : Int), .int .u64 (x2 : Int), .int .u64 (x3 : Int)] 152)) (fun _ _ h => h)
        have hKA := Lib.hid (HP.out.keeps.alloc (.cells #[.int .u64 (x0 : Int), .int .u64 (x1 : Int), .int .u64 (x2 : Int), .int .u64 (x3 : Int)] 152))
        have hE := Whole.new wr 152 #[.int .u64 (x0 : Int), .int .u64 (x1 : Int), .int .u64 (x2 : Int), .int .u64 (x3 : Int)]
        generalize wr.alloc (.cells #[.int .u64 (x0 : Int), .int .u64 (x1 : Int), .int .u64 (x2 : Int), .int .u64 (x3 : Int)] 152) = wa at *
        have hcb2 : wa.cell? ⟨bb, 0, none⟩ = some (.slice (some ⟨g1, 0, none⟩) (M + 32 * n) k1) := hA.cell 0
        have e0 : wa.cell? ⟨wr.heap.size, 0, none⟩ = some (.int .u64 (x0 : Int)) := hE.cell 0
        have e1 : wa.cell? ⟨wr.heap.size, 1, none⟩ = some (.int .u64 (x1 : Int)) := hE.cell 1
        have e2 : wa.cell? ⟨wr.heap.size, 2, none⟩ = some (.int .u64 (x2 : Int)) := hE.cell 2
        have e3 : wa.cell? ⟨wr.heap.size, 3, none⟩ = some (.int .u64 (x3 : Int)) := hE.cell 3
        have hEl := hE.lt
        have hAl := hA.lt
        have HA := Lib.hid hA
        have HOA := Lib.hid hoA
        clear hA hoA hE hcb
        go_still_tail 9, (by kernel_rfl)
        change wpList _ _ _ _ _ wa.drew
        go_wp2_with fail
        refine (putW4In wa.drew base (M + 32 * n) k1 p g1 x0 x1 x2 x3 _ HOA.out.drew f6 (k1 - p) (by omega)).mono ?_
        rintro e w2 ⟨rfl, o2, K2⟩
        all_goals
          have hb2 := HA.out.drew.keeps K2 (fun h => nA1 h.symm)
          have hlen : (l ++ wbs4 (xs.take k)).length = p := by rw [List.length_append, wbs4_length, List.length_take, HL.out, HM.out, HPP.out, Nat.min_eq_left hk]
          have hz := zer_step4 (l ++ wbs4 (xs.take k)) (wB4 x0 x1 x2 x3) (32 * (n - k)) (wB4_length ..) (by omega)
          rw [hlen] at hz
          rw [hz, List.append_assoc, show wB4 x0 x1 x2 x3 = wb4 (x0, x1, x2, x3) from rfl, ← wbs4_snoc, ← HT.out, show 32 * (n - k) - 32 = 32 * (n - (k + 1)) by omega] at o2
          go_wp2_with fail
          go_roundw
          case rel => exact ⟨k + 1, p + 32, by omega, by have := HPP.out; omega, by go_num, by go_num, hb2, o2, hKA.out.drew.trans K2 (fun i hi h => .inr (HG.out i hi h))⟩
          case measure => (first | (simp [RowKit.intOf]; done) | (simp [RowKit.intOf]; omega))
      · have hkn : k = n := by omega
        subst hkn
        go_wp2_with fail
        go_end0
        have hlen : (l ++ wbs4 xs).length = M + 32 * k := by rw [List.length_append, wbs4_length, HL.out, HM.out]
        have ho := HP.out.own
        rw [List.take_of_length_le (by rw [HL.out]; exact Nat.le_refl _), Nat.sub_self, Nat.mul_zero, zer, List.replicate_zero, List.append_nil] at ho
        refine ⟨some ⟨g1, 0, none⟩, k1, rfl, ⟨⟨?_, ?_, HB.out.lo⟩, HP.out.keeps, ?_⟩⟩
        · rw [hlen]
          exact HP.out.blk
        · rw [hlen]
          exact ho
        · rcases HAT.out with h | h
          · exact .inl (by rw [← h, ownBlock_slice])
          · exact .inr fun i hi => by
              rw [ownBlock_slice] at h
              rw [h] at hi
              injection hi with hi
              omega
/-- Within the loop: k numbers are laid, the others are zeros yet. -/
structure AtInt128 (w wr : World) (base bb g1 N k1 n k : Nat) (A : Option Addr) (l : List UInt8) (xs : List W2) : Prop where
  blk : Whole wr bb 47 #[.slice (some ⟨g1, 0, none⟩) N k1]
  own : wr.ownsRow base 5 1 (.slice (some ⟨g1, 0, none⟩) N k1) N (Lib.byteCells (l ++ wbs2 (xs.take k)) ++ zer (16 * (n - k)))
  keeps : Keeps (fun i => i = bb ∨ ob A = some i) w wr

def ResInt128 (w : World) (base bb : Nat) (A : Option Addr) (l : List UInt8) (xs : List W2) (e : Ending) (w' : World) : Prop := ∃ A' c', e = .returned (.tuple #[]) ∧ Put w w' base bb A A' c' (l ++ wbs2 xs)

/-- Within the loop: k numbers are laid, the others are zeros yet. -/
structure AtInt256 (w wr : World) (base bb g1 N k1 n k : Nat) (A : Option Addr) (l : List UInt8) (xs : List W4) : Prop where
  blk : Whole wr bb 47 #[.slice (some ⟨g1, 0, none⟩) N k1]
  own : wr.ownsRow base 5 1 (.slice (some ⟨g1, 0, none⟩) N k1) N (Lib.byteCells (l ++ wbs4 (xs.take k)) ++ zer (32 * (n - k)))
  keeps : Keeps (fun i => i = bb ∨ ob A = some i) w wr

def ResInt256 (w : World) (base bb : Nat) (A : Option Addr) (l : List UInt8) (xs : List W4) (e : Ending) (w' : World) : Prop := ∃ A' c', e = .returned (.tuple #[]) ∧ Put w w' base bb A A' c' (l ++ wbs4 xs)

/-- Within the loop: k numbers are laid, the others are zeros yet. -/
structure AtUInt128 (w wr : World) (base bb g1 N k1 n k : Nat) (A : Option Addr) (l : List UInt8) (xs : List W2) : Prop where
  blk : Whole wr bb 47 #[.slice (some ⟨g1, 0, none⟩) N k1]
  own : wr.ownsRow base 5 1 (.slice (some ⟨g1, 0, none⟩) N k1) N (Lib.byteCells (l ++ wbs2 (xs.take k)) ++ zer (16 * (n - k)))
  keeps : Keeps (fun i => i = bb ∨ ob A = some i) w wr

def ResUInt128 (w : World) (base bb : Nat) (A : Option Addr) (l : List UInt8) (xs : List W2) (e : Ending) (w' : World) : Prop := ∃ A' c', e = .returned (.tuple #[]) ∧ Put w w' base bb A A' c' (l ++ wbs2 xs)

/-- Within the loop: k numbers are laid, the others are zeros yet. -/
structure AtUInt256 (w wr : World) (base bb g1 N k1 n k : Nat) (A : Option Addr) (l : List UInt8) (xs : List W4) : Prop where
  blk : Whole wr bb 47 #[.slice (some ⟨g1, 0, none⟩) N k1]
  own : wr.ownsRow base 5 1 (.slice (some ⟨g1, 0, none⟩) N k1) N (Lib.byteCells (l ++ wbs4 (xs.take k)) ++ zer (32 * (n - k)))
  keeps : Keeps (fun i => i = bb ∨ ob A = some i) w wr

def ResUInt256 (w : World) (base bb : Nat) (A : Option Addr) (l : List UInt8) (xs : List W4) (e : Ending) (w' : World) : Prop := ∃ A' c', e = .returned (.tuple #[]) ∧ Put w w' base bb A A' c' (l ++ wbs4 xs)

end Go.Proofs.YtmdmccjmmljbkaaGreat
