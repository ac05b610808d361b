/- Rows added to a column of numbers. Conditions: each row's first number is one of the kind; sizes far below the machine's. -/
import Derived.Test.YtoilbojaenfalaaGreatKa
import Derived.Deep.MidRow
import Derived.Deep.RegionHeld3
namespace Go.Proofs.YtoilbojaenfalaaGreat
open Go.RowKit Go.Lib
set_option linter.unusedVariables false
/-- The cells of a row of the package. -/
def rowC (r : Int × Int × Int × Int) : List Value := [.int .u64 r.1, .int .u64 r.2.1, .int .u64 r.2.2.1, .int .u64 r.2.2.2]
/-- A row of such rows. -/
def RowsR (w : World) (U : Option Addr) (n : Nat) (rs : List (Int × Int × Int × Int)) : Prop := rs.length = n ∧ Rd w 4 U n (rs.map rowC).flatten
theorem RowsR.keeps {w w' : World} {U : Option Addr} {n : Nat} {rs : List (Int × Int × Int × Int)} (h : RowsR w U n rs) (K : Keeps (fun _ => False) w w') : RowsR w' U n rs := ⟨h.1, h.2.keeps K (fun _ _ h => h)⟩
theorem flat4 {rs : List (Int × Int × Int × Int)} {k : Nat} {r : Int × Int × Int × Int} (h : rs[k]? = some r) (j : Nat) (hj : j < 4) : (rs.map rowC).flatten[4 * k + j]? = (rowC r)[j]? := by
  induction rs generalizing k with
  | nil => simp at h
  | cons x t ih =>
    rw [List.map_cons, List.flatten_cons]
    rcases k with _ | k
    · simp only [List.getElem?_cons_zero, Option.some.injEq] at h
      subst h
      rw [List.getElem?_append_left (by simp [rowC]; omega)]
      simp
    · simp only [List.getElem?_cons_succ] at h
      rw [List.getElem?_append_right (by simp [rowC]; omega), ← ih h]
      congr 1
      simp [rowC]; omega
theorem RowsR.at' {w : World} {U : Option Addr} {n k : Nat} {rs : List (Int × Int × Int × Int)} {r : Int × Int × Int × Int} (h : RowsR w U n rs) (hk : rs[k]? = some r) : ∃ ad, U = some ad ∧ ad.block < w.heap.size ∧ ∀ j (u : Value), (rowC r)[j]? = some u → w.cell? ((ad.add (k * 4)).add j) = some u := by
  have hl : k < n := by rw [← h.1]; exact (List.getElem?_eq_some_iff.1 hk).1
  obtain ⟨ad, hA, hb, hc⟩ := h.2.2 (by omega)
  refine ⟨ad, hA, hb, fun j u hu => ?_⟩
  rw [add_add', show k * 4 + j = 4 * k + j by omega]
  refine hc _ u ?_
  rw [flat4 hk j (by have := (List.getElem?_eq_some_iff.1 hu).1; simpa [rowC] using this)]
  exact hu
abbrev KaddS8 (b b2 g : Nat) (r1 r2 r3 r4 : Int) (w : World) : Prop := w.cell? ⟨b, 0, none⟩ = some (.iface 127 (.pointer (some ⟨g, 0, none⟩))) ∧ w.cell? ⟨b, 1, none⟩ = some (.func (.func 35) #[] #[]) ∧ w.cell? ⟨b2, 0, none⟩ = some (.int .u64 r1) ∧ w.cell? ⟨b2, 1, none⟩ = some (.int .u64 r2) ∧ w.cell? ⟨b2, 2, none⟩ = some (.int .u64 r3) ∧ w.cell? ⟨b2, 3, none⟩ = some (.int .u64 r4) ∧ (method 499 127 (.pointer (some ⟨g, 0, none⟩)) "Append").run Tryz.prog w = .ok (207, .pointer (some ⟨g, 0, none⟩)) w
theorem iApp8 : (Tryz.prog.info? 127).map (fun i => (i.methods.find? (·.name == "Append")).map (fun m => (m.path.toList.length, m.func))) = some (some (0, some (207, true))) := by kernel_rfl
theorem mApp8 (w : World) (g : Nat) (fuel : Nat) : (method (fuel + 1) 127 (.pointer (some ⟨g, 0, none⟩)) "Append").run Tryz.prog w = .ok (207, .pointer (some ⟨g, 0, none⟩)) w := by
  obtain ⟨i, m, h1, h2, h3, h4⟩ := method_row iApp8
  exact method_ptr h1 h2 h3 h4 Tryz.underlying127
theorem kaddS8 {S : Nat → Prop} {w w' : World} {b g : Nat} {r1 r2 r3 r4 : Int} (hB : Whole w b 135 #[.iface 127 (.pointer (some ⟨g, 0, none⟩)), .func (.func 35) #[] #[], .func (.func 36) #[] #[]]) (kk : Keeps S (w.alloc (.cells #[.int .u64 r1, .int .u64 r2, .int .u64 r3, .int .u64 r4] 29)) w') (n1 : ¬ S b) (n2 : ¬ S w.heap.size) : KaddS8 b w.heap.size g r1 r2 r3 r4 w' := by
  have h1 := (hB.alloc _).keeps kk n1
  have h2 := (Whole.new w 29 #[.int .u64 r1, .int .u64 r2, .int .u64 r3, .int .u64 r4]).keeps kk n2
  exact ⟨h1.cell 0, h1.cell 1, h2.cell 0, h2.cell 1, h2.cell 2, h2.cell 3, mApp8 _ _ _⟩
set_option maxRecDepth 100000 in
set_option maxHeartbeats 2000000 in
theorem kadd8 (w0 w : World) (base g : Nat) (A : Option Addr) (n c : Nat) (vs : List Value) (U : Option Addr) (m k0 : Nat) (rs : List (Int × Int × Int × Int)) (hC : KAt 129 70 w base g A n c vs) (hU : RowsR w U m rs) (hg : 0 < m → ∀ ad, U = some ad → ad.block ≠ g ∧ ob A ≠ some ad.block) (hr : ∀ r ∈ rs, 0 ≤ r.1 ∧ r.1 < 65536) (hn : n ≤ 100000) (hm : m ≤ 100000) : Calls Tryz.prog 216 #[.agg #[.iface 127 (.pointer (some ⟨g, 0, none⟩)), .func (.func 35) #[] #[], .func (.func 36) #[] #[]], .slice U m k0] w fun e w' => KRes 129 70 w base g A (n + m) (vs ++ rs.map (fun r => .int .u16 r.1)) e w' := by
  have HC := Lib.hid hC
  have HU := Lib.hid hU
  have HR := Lib.hid hr
  clear hC hU hr
  go_enter Tryz.func216, Tryz.ntmps216
  go_wp2_with fail
  go_loopw [8, 5] (fun i _ wr => ∃ (k : Nat) (A' : Option Addr) (c' : Nat), k ≤ m ∧ i = .int .i64 k ∧ KAt 129 70 wr base g A' (n + k) c' (vs ++ (rs.take k).map (fun r => .int .u16 r.1)) ∧ Keeps (fun k => k = g ∨ ob A = some k) w wr ∧ (ob A' = ob A ∨ ∀ k, ob A' = some k → w.heap.size ≤ k) ∧ Whole wr w.heap.size 135 #[.iface 127 (.pointer (some ⟨g, 0, none⟩)), .func (.func 35) #[] #[], .func (.func 36) #[] #[]]) (fun i _ _ => m - (RowKit.intOf i).toNat)
  case atStart => exact ⟨0, A, c, by omega, rfl, by simpa using HC.out.new ((Keeps.refl (fun _ => False) w).alloc _), (Keeps.refl _ w).alloc _, .inl rfl, Whole.new w _ _⟩
  case round =>
    obtain ⟨k, A', c', hk, rfl, hP, hK, hA, hB⟩ := hrel
    by_cases hlt : k < m
    · obtain ⟨r, hrk⟩ : ∃ r, rs[k]? = some r := ⟨_, List.getElem?_eq_getElem (by rw [HU.out.1]; exact hlt)⟩
      obtain ⟨ad, rfl, hb, hcell⟩ := HU.out.at' hrk
      have hcr : ∀ j (u : Value), (rowC r)[j]? = some u → wr.cell? ((ad.add (k * 4)).add j) = some u := fun j u hu => (hK.cell (by rw [blk_add, blk_add]; exact hb) (by rw [blk_add, blk_add]; have := hg (by omega) ad rfl; intro h; rcases h with h | h; exact this.1 h; exact this.2 h)).trans (hcell j u hu)
      have x0 : wr.cell? (ad.add (k * 4)) = some (.int .u64 r.1) := hcr 0 _ rfl
      have x1 : wr.cell? ⟨(ad.add (k * 4)).block, (ad.add (k * 4)).off + 1, none⟩ = some (.int .u64 r.2.1) := hcr 1 _ rfl
      have x2 : wr.cell? ⟨(ad.add (k * 4)).block, (ad.add (k * 4)).off + 2, none⟩ = some (.int .u64 r.2.2.1) := hcr 2 _ rfl
      have x3 : wr.cell? ⟨(ad.add (k * 4)).block, (ad.add (k * 4)).off + 3, none⟩ = some (.int .u64 r.2.2.2) := hcr 3 _ rfl
      clear hcr hcell
      have hr1 := HR.out r (List.mem_of_getElem? hrk)
      have HTK := Lib.hid (show ((rs.take k).map (fun r => Value.int .u16 r.1)) ++ [.int .u16 r.1] = (rs.take (k + 1)).map (fun r => Value.int .u16 r.1) by rw [List.take_add_one, hrk]; simp)
      obtain ⟨r1, r2, r3, r4⟩ := r
      have hfb := own_far hP.own hB (by decide)
      rw [ownBlock_slice] at hfb
      have hgb := hP.blk.differ hB (by decide)
      have hlB := hB.lt
      have HM := Lib.hid (fun w' (kk : Keeps (fun _ => False) (wr.alloc (.cells #[.int .u64 r1, .int .u64 r2, .int .u64 r3, .int .u64 r4] 29)) w') => kaddS8 hB kk (fun h => h) (fun h => h))
      have hn2 : ¬ (wr.heap.size = g ∨ ob A' = some wr.heap.size) := by
        have h1 := hP.blk.lt
        have h2 := hP.own.lt
        rw [ownBlock_slice] at h2
        rintro (h | h)
        · omega
        · have := (h2 _ h).2; omega
      have hn1 : ¬ (w.heap.size = g ∨ ob A' = some w.heap.size) := by
        rintro (h | h)
        · exact hgb h.symm
        · exact hfb h
      have HM4 := Lib.hid (fun w' (k4 : Keeps (fun i => i = g ∨ ob A' = some i) (wr.alloc (.cells #[.int .u64 r1, .int .u64 r2, .int .u64 r3, .int .u64 r4] 29)) w') => kaddS8 hB k4 hn1 hn2)
      have HA := Lib.hid (fun w' (kk : Keeps (fun _ => False) (wr.alloc (.cells #[.int .u64 r1, .int .u64 r2, .int .u64 r3, .int .u64 r4] 29)) w') => kApp8 w' base g A' (n + k) c' _ r1 ((hP.new ((Keeps.refl _ wr).alloc _)).new kk) (by omega))
      have HK := Lib.hid hK
      have HAB := Lib.hid hA
      have HB := Lib.hid hB
      have kk := (Keeps.refl (fun _ => False) (wr.alloc (.cells #[.int .u64 r1, .int .u64 r2, .int .u64 r3, .int .u64 r4] 29))).drew
      clear hP hK hA hB hrk
      simp only at x0 x1 x2 x3 hr1 HTK
      go_wp2_with fail
      go_region_held3 (fun w' => KaddS8 w.heap.size wr.heap.size g r1 r2 r3 r4 w') (first | exact HM.out _ kk | exact HM4.out _ k4) (first
        | (go_at_call 35; refine (kin8 _ r1 r2 r3 r4 hr1.1 hr1.2).mono ?_; rintro e w3 ⟨rfl, K3⟩; have kk := kk.trans K3 (fun _ _ h => h))
        | (go_at_call 207; refine (HA.out _ kk).mono ?_; rintro e w4 ⟨A4, c4, rfl, hP4, K4, hat4⟩; have k4 := (kk.mono (S' := fun i => i = g ∨ ob A' = some i) (fun _ _ h => h.elim)).trans K4 (fun _ _ h => h)))
      all_goals
        go_wp2_with fail
        go_roundw
        case rel =>
          have kw := HK.out.trans (((Keeps.refl (fun i => i = g ∨ ob A' = some i) wr).alloc (.cells #[.int .u64 r1, .int .u64 r2, .int .u64 r3, .int .u64 r4] 29)).trans k4 (fun _ _ h => h)) (fun i hi h => by
            rcases h with h | h
            · exact .inl h
            · rcases HAB.out with e | e
              · exact .inr (e ▸ h)
              · have := e i h; omega)
          refine ⟨k + 1, A4, c4, by omega, by go_num, ?_, kw, ?_, ?_⟩
          · rw [← HTK.out, ← List.append_assoc]; exact hP4
          · rcases hat4 with e | e
            · rw [e]; exact HAB.out
            · exact .inr (fun i hi => by have := e i hi; have := kk.size; have := HK.out.size; rw [World.size_alloc] at *; omega)
          · exact HB.out.keeps (((Keeps.refl (fun i => i = g ∨ ob A' = some i) wr).alloc (.cells #[.int .u64 r1, .int .u64 r2, .int .u64 r3, .int .u64 r4] 29)).trans k4 (fun _ _ h => h)) hn1
        case measure => (first | (simp [RowKit.intOf]; done) | (simp [RowKit.intOf]; omega))
    · have hkm : k = m := by omega
      subst hkm
      rw [List.take_of_length_le (by rw [HU.out.1]; exact Nat.le_refl _)] at hP
      have HP := Lib.hid hP
      have HK := Lib.hid hK
      have HAB := Lib.hid hA
      clear hP hK hA hB
      go_wp2_with fail
      go_end0
      exact ⟨A', c', rfl, HP.out, HK.out, HAB.out⟩
abbrev KaddS9 (b b2 g : Nat) (r1 r2 r3 r4 : Int) (w : World) : Prop := w.cell? ⟨b, 0, none⟩ = some (.iface 53 (.pointer (some ⟨g, 0, none⟩))) ∧ w.cell? ⟨b, 1, none⟩ = some (.func (.func 37) #[] #[]) ∧ w.cell? ⟨b2, 0, none⟩ = some (.int .u64 r1) ∧ w.cell? ⟨b2, 1, none⟩ = some (.int .u64 r2) ∧ w.cell? ⟨b2, 2, none⟩ = some (.int .u64 r3) ∧ w.cell? ⟨b2, 3, none⟩ = some (.int .u64 r4) ∧ (method 499 53 (.pointer (some ⟨g, 0, none⟩)) "Append").run Tryz.prog w = .ok (106, .pointer (some ⟨g, 0, none⟩)) w
theorem iApp9 : (Tryz.prog.info? 53).map (fun i => (i.methods.find? (·.name == "Append")).map (fun m => (m.path.toList.length, m.func))) = some (some (0, some (106, true))) := by kernel_rfl
theorem mApp9 (w : World) (g : Nat) (fuel : Nat) : (method (fuel + 1) 53 (.pointer (some ⟨g, 0, none⟩)) "Append").run Tryz.prog w = .ok (106, .pointer (some ⟨g, 0, none⟩)) w := by
  obtain ⟨i, m, h1, h2, h3, h4⟩ := method_row iApp9
  exact method_ptr h1 h2 h3 h4 Tryz.underlying53
theorem kaddS9 {S : Nat → Prop} {w w' : World} {b g : Nat} {r1 r2 r3 r4 : Int} (hB : Whole w b 141 #[.iface 53 (.pointer (some ⟨g, 0, none⟩)), .func (.func 37) #[] #[], .func (.func 38) #[] #[]]) (kk : Keeps S (w.alloc (.cells #[.int .u64 r1, .int .u64 r2, .int .u64 r3, .int .u64 r4] 29)) w') (n1 : ¬ S b) (n2 : ¬ S w.heap.size) : KaddS9 b w.heap.size g r1 r2 r3 r4 w' := by
  have h1 := (hB.alloc _).keeps kk n1
  have h2 := (Whole.new w 29 #[.int .u64 r1, .int .u64 r2, .int .u64 r3, .int .u64 r4]).keeps kk n2
  exact ⟨h1.cell 0, h1.cell 1, h2.cell 0, h2.cell 1, h2.cell 2, h2.cell 3, mApp9 _ _ _⟩
set_option maxRecDepth 100000 in
set_option maxHeartbeats 2000000 in
theorem kadd9 (w0 w : World) (base g : Nat) (A : Option Addr) (n c : Nat) (vs : List Value) (U : Option Addr) (m k0 : Nat) (rs : List (Int × Int × Int × Int)) (hC : KAt 54 26 w base g A n c vs) (hU : RowsR w U m rs) (hg : 0 < m → ∀ ad, U = some ad → ad.block ≠ g ∧ ob A ≠ some ad.block) (hr : ∀ r ∈ rs, 0 ≤ r.1 ∧ r.1 < 4294967296) (hn : n ≤ 100000) (hm : m ≤ 100000) : Calls Tryz.prog 219 #[.agg #[.iface 53 (.pointer (some ⟨g, 0, none⟩)), .func (.func 37) #[] #[], .func (.func 38) #[] #[]], .slice U m k0] w fun e w' => KRes 54 26 w base g A (n + m) (vs ++ rs.map (fun r => .int .u32 r.1)) e w' := by
  have HC := Lib.hid hC
  have HU := Lib.hid hU
  have HR := Lib.hid hr
  clear hC hU hr
  go_enter Tryz.func219, Tryz.ntmps219
  go_wp2_with fail
  go_loopw [8, 5] (fun i _ wr => ∃ (k : Nat) (A' : Option Addr) (c' : Nat), k ≤ m ∧ i = .int .i64 k ∧ KAt 54 26 wr base g A' (n + k) c' (vs ++ (rs.take k).map (fun r => .int .u32 r.1)) ∧ Keeps (fun k => k = g ∨ ob A = some k) w wr ∧ (ob A' = ob A ∨ ∀ k, ob A' = some k → w.heap.size ≤ k) ∧ Whole wr w.heap.size 141 #[.iface 53 (.pointer (some ⟨g, 0, none⟩)), .func (.func 37) #[] #[], .func (.func 38) #[] #[]]) (fun i _ _ => m - (RowKit.intOf i).toNat)
  case atStart => exact ⟨0, A, c, by omega, rfl, by simpa using HC.out.new ((Keeps.refl (fun _ => False) w).alloc _), (Keeps.refl _ w).alloc _, .inl rfl, Whole.new w _ _⟩
  case round =>
    obtain ⟨k, A', c', hk, rfl, hP, hK, hA, hB⟩ := hrel
    by_cases hlt : k < m
    · obtain ⟨r, hrk⟩ : ∃ r, rs[k]? = some r := ⟨_, List.getElem?_eq_getElem (by rw [HU.out.1]; exact hlt)⟩
      obtain ⟨ad, rfl, hb, hcell⟩ := HU.out.at' hrk
      have hcr : ∀ j (u : Value), (rowC r)[j]? = some u → wr.cell? ((ad.add (k * 4)).add j) = some u := fun j u hu => (hK.cell (by rw [blk_add, blk_add]; exact hb) (by rw [blk_add, blk_add]; have := hg (by omega) ad rfl; intro h; rcases h with h | h; exact this.1 h; exact this.2 h)).trans (hcell j u hu)
      have x0 : wr.cell? (ad.add (k * 4)) = some (.int .u64 r.1) := hcr 0 _ rfl
      have x1 : wr.cell? ⟨(ad.add (k * 4)).block, (ad.add (k * 4)).off + 1, none⟩ = some (.int .u64 r.2.1) := hcr 1 _ rfl
      have x2 : wr.cell? ⟨(ad.add (k * 4)).block, (ad.add (k * 4)).off + 2, none⟩ = some (.int .u64 r.2.2.1) := hcr 2 _ rfl
      have x3 : wr.cell? ⟨(ad.add (k * 4)).block, (ad.add (k * 4)).off + 3, none⟩ = some (.int .u64 r.2.2.2) := hcr 3 _ rfl
      clear hcr hcell
      have hr1 := HR.out r (List.mem_of_getElem? hrk)
      have HTK := Lib.hid (show ((rs.take k).map (fun r => Value.int .u32 r.1)) ++ [.int .u32 r.1] = (rs.take (k + 1)).map (fun r => Value.int .u32 r.1) by rw [List.take_add_one, hrk]; simp)
      obtain ⟨r1, r2, r3, r4⟩ := r
      have hfb := own_far hP.own hB (by decide)
      rw [ownBlock_slice] at hfb
      have hgb := hP.blk.differ hB (by decide)
      have hlB := hB.lt
      have HM := Lib.hid (fun w' (kk : Keeps (fun _ => False) (wr.alloc (.cells #[.int .u64 r1, .int .u64 r2, .int .u64 r3, .int .u64 r4] 29)) w') => kaddS9 hB kk (fun h => h) (fun h => h))
      have hn2 : ¬ (wr.heap.size = g ∨ ob A' = some wr.heap.size) := by
        have h1 := hP.blk.lt
        have h2 := hP.own.lt
        rw [ownBlock_slice] at h2
        rintro (h | h)
        · omega
        · have := (h2 _ h).2; omega
      have hn1 : ¬ (w.heap.size = g ∨ ob A' = some w.heap.size) := by
        rintro (h | h)
        · exact hgb h.symm
        · exact hfb h
      have HM4 := Lib.hid (fun w' (k4 : Keeps (fun i => i = g ∨ ob A' = some i) (wr.alloc (.cells #[.int .u64 r1, .int .u64 r2, .int .u64 r3, .int .u64 r4] 29)) w') => kaddS9 hB k4 hn1 hn2)
      have HA := Lib.hid (fun w' (kk : Keeps (fun _ => False) (wr.alloc (.cells #[.int .u64 r1, .int .u64 r2, .int .u64 r3, .int .u64 r4] 29)) w') => kApp9 w' base g A' (n + k) c' _ r1 ((hP.new ((Keeps.refl _ wr).alloc _)).new kk) (by omega))
      have HK := Lib.hid hK
      have HAB := Lib.hid hA
      have HB := Lib.hid hB
      have kk := (Keeps.refl (fun _ => False) (wr.alloc (.cells #[.int .u64 r1, .int .u64 r2, .int .u64 r3, .int .u64 r4] 29))).drew
      clear hP hK hA hB hrk
      simp only at x0 x1 x2 x3 hr1 HTK
      go_wp2_with fail
      go_region_held3 (fun w' => KaddS9 w.heap.size wr.heap.size g r1 r2 r3 r4 w') (first | exact HM.out _ kk | exact HM4.out _ k4) (first
        | (go_at_call 37; refine (kin9 _ r1 r2 r3 r4 hr1.1 hr1.2).mono ?_; rintro e w3 ⟨rfl, K3⟩; have kk := kk.trans K3 (fun _ _ h => h))
        | (go_at_call 106; refine (HA.out _ kk).mono ?_; rintro e w4 ⟨A4, c4, rfl, hP4, K4, hat4⟩; have k4 := (kk.mono (S' := fun i => i = g ∨ ob A' = some i) (fun _ _ h => h.elim)).trans K4 (fun _ _ h => h)))
      all_goals
        go_wp2_with fail
        go_roundw
        case rel =>
          have kw := HK.out.trans (((Keeps.refl (fun i => i = g ∨ ob A' = some i) wr).alloc (.cells #[.int .u64 r1, .int .u64 r2, .int .u64 r3, .int .u64 r4] 29)).trans k4 (fun _ _ h => h)) (fun i hi h => by
            rcases h with h | h
            · exact .inl h
            · rcases HAB.out with e | e
              · exact .inr (e ▸ h)
              · have := e i h; omega)
          refine ⟨k + 1, A4, c4, by omega, by go_num, ?_, kw, ?_, ?_⟩
          · rw [← HTK.out, ← List.append_assoc]; exact hP4
          · rcases hat4 with e | e
            · rw [e]; exact HAB.out
            · exact .inr (fun i hi => by have := e i hi; have := kk.size; have := HK.out.size; rw [World.size_alloc] at *; omega)
          · exact HB.out.keeps (((Keeps.refl (fun i => i = g ∨ ob A' = some i) wr).alloc (.cells #[.int .u64 r1, .int .u64 r2, .int .u64 r3, .int .u64 r4] 29)).trans k4 (fun _ _ h => h)) hn1
        case measure => (first | (simp [RowKit.intOf]; done) | (simp [RowKit.intOf]; omega))
    · have hkm : k = m := by omega
      subst hkm
      rw [List.take_of_length_le (by rw [HU.out.1]; exact Nat.le_refl _)] at hP
      have HP := Lib.hid hP
      have HK := Lib.hid hK
      have HAB := Lib.hid hA
      clear hP hK hA hB
      go_wp2_with fail
      go_end0
      exact ⟨A', c', rfl, HP.out, HK.out, HAB.out⟩
abbrev KaddS10 (b b2 g : Nat) (r1 r2 r3 r4 : Int) (w : World) : Prop := w.cell? ⟨b, 0, none⟩ = some (.iface 142 (.pointer (some ⟨g, 0, none⟩))) ∧ w.cell? ⟨b, 1, none⟩ = some (.func (.func 39) #[] #[]) ∧ w.cell? ⟨b2, 0, none⟩ = some (.int .u64 r1) ∧ w.cell? ⟨b2, 1, none⟩ = some (.int .u64 r2) ∧ w.cell? ⟨b2, 2, none⟩ = some (.int .u64 r3) ∧ w.cell? ⟨b2, 3, none⟩ = some (.int .u64 r4) ∧ (method 499 142 (.pointer (some ⟨g, 0, none⟩)) "Append").run Tryz.prog w = .ok (222, .pointer (some ⟨g, 0, none⟩)) w
theorem iApp10 : (Tryz.prog.info? 142).map (fun i => (i.methods.find? (·.name == "Append")).map (fun m => (m.path.toList.length, m.func))) = some (some (0, some (222, true))) := by kernel_rfl
theorem mApp10 (w : World) (g : Nat) (fuel : Nat) : (method (fuel + 1) 142 (.pointer (some ⟨g, 0, none⟩)) "Append").run Tryz.prog w = .ok (222, .pointer (some ⟨g, 0, none⟩)) w := by
  obtain ⟨i, m, h1, h2, h3, h4⟩ := method_row iApp10
  exact method_ptr h1 h2 h3 h4 Tryz.underlying142
theorem kaddS10 {S : Nat → Prop} {w w' : World} {b g : Nat} {r1 r2 r3 r4 : Int} (hB : Whole w b 150 #[.iface 142 (.pointer (some ⟨g, 0, none⟩)), .func (.func 39) #[] #[], .func (.func 40) #[] #[]]) (kk : Keeps S (w.alloc (.cells #[.int .u64 r1, .int .u64 r2, .int .u64 r3, .int .u64 r4] 29)) w') (n1 : ¬ S b) (n2 : ¬ S w.heap.size) : KaddS10 b w.heap.size g r1 r2 r3 r4 w' := by
  have h1 := (hB.alloc _).keeps kk n1
  have h2 := (Whole.new w 29 #[.int .u64 r1, .int .u64 r2, .int .u64 r3, .int .u64 r4]).keeps kk n2
  exact ⟨h1.cell 0, h1.cell 1, h2.cell 0, h2.cell 1, h2.cell 2, h2.cell 3, mApp10 _ _ _⟩
set_option maxRecDepth 100000 in
set_option maxHeartbeats 2000000 in
theorem kadd10 (w0 w : World) (base g : Nat) (A : Option Addr) (n c : Nat) (vs : List Value) (U : Option Addr) (m k0 : Nat) (rs : List (Int × Int × Int × Int)) (hC : KAt 144 27 w base g A n c vs) (hU : RowsR w U m rs) (hg : 0 < m → ∀ ad, U = some ad → ad.block ≠ g ∧ ob A ≠ some ad.block) (hr : ∀ r ∈ rs, 0 ≤ r.1 ∧ r.1 < 18446744073709551616) (hn : n ≤ 100000) (hm : m ≤ 100000) : Calls Tryz.prog 228 #[.agg #[.iface 142 (.pointer (some ⟨g, 0, none⟩)), .func (.func 39) #[] #[], .func (.func 40) #[] #[]], .slice U m k0] w fun e w' => KRes 144 27 w base g A (n + m) (vs ++ rs.map (fun r => .int .u64 r.1)) e w' := by
  have HC := Lib.hid hC
  have HU := Lib.hid hU
  have HR := Lib.hid hr
  clear hC hU hr
  go_enter Tryz.func228, Tryz.ntmps228
  go_wp2_with fail
  go_loopw [8, 5] (fun i _ wr => ∃ (k : Nat) (A' : Option Addr) (c' : Nat), k ≤ m ∧ i = .int .i64 k ∧ KAt 144 27 wr base g A' (n + k) c' (vs ++ (rs.take k).map (fun r => .int .u64 r.1)) ∧ Keeps (fun k => k = g ∨ ob A = some k) w wr ∧ (ob A' = ob A ∨ ∀ k, ob A' = some k → w.heap.size ≤ k) ∧ Whole wr w.heap.size 150 #[.iface 142 (.pointer (some ⟨g, 0, none⟩)), .func (.func 39) #[] #[], .func (.func 40) #[] #[]]) (fun i _ _ => m - (RowKit.intOf i).toNat)
  case atStart => exact ⟨0, A, c, by omega, rfl, by simpa using HC.out.new ((Keeps.refl (fun _ => False) w).alloc _), (Keeps.refl _ w).alloc _, .inl rfl, Whole.new w _ _⟩
  case round =>
    obtain ⟨k, A', c', hk, rfl, hP, hK, hA, hB⟩ := hrel
    by_cases hlt : k < m
    · obtain ⟨r, hrk⟩ : ∃ r, rs[k]? = some r := ⟨_, List.getElem?_eq_getElem (by rw [HU.out.1]; exact hlt)⟩
      obtain ⟨ad, rfl, hb, hcell⟩ := HU.out.at' hrk
      have hcr : ∀ j (u : Value), (rowC r)[j]? = some u → wr.cell? ((ad.add (k * 4)).add j) = some u := fun j u hu => (hK.cell (by rw [blk_add, blk_add]; exact hb) (by rw [blk_add, blk_add]; have := hg (by omega) ad rfl; intro h; rcases h with h | h; exact this.1 h; exact this.2 h)).trans (hcell j u hu)
      have x0 : wr.cell? (ad.add (k * 4)) = some (.int .u64 r.1) := hcr 0 _ rfl
      have x1 : wr.cell? ⟨(ad.add (k * 4)).block, (ad.add (k * 4)).off + 1, none⟩ = some (.int .u64 r.2.1) := hcr 1 _ rfl
      have x2 : wr.cell? ⟨(ad.add (k * 4)).block, (ad.add (k * 4)).off + 2, none⟩ = some (.int .u64 r.2.2.1) := hcr 2 _ rfl
      have x3 : wr.cell? ⟨(ad.add (k * 4)).block, (ad.add (k * 4)).off + 3, none⟩ = some (.int .u64 r.2.2.2) := hcr 3 _ rfl
      clear hcr hcell
      have hr1 := HR.out r (List.mem_of_getElem? hrk)
      have HTK := Lib.hid (show ((rs.take k).map (fun r => Value.int .u64 r.1)) ++ [.int .u64 r.1] = (rs.take (k + 1)).map (fun r => Value.int .u64 r.1) by rw [List.take_add_one, hrk]; simp)
      obtain ⟨r1, r2, r3, r4⟩ := r
      have hfb := own_far hP.own hB (by decide)
      rw [ownBlock_slice] at hfb
      have hgb := hP.blk.differ hB (by decide)
      have hlB := hB.lt
      have HM := Lib.hid (fun w' (kk : Keeps (fun _ => False) (wr.alloc (.cells #[.int .u64 r1, .int .u64 r2, .int .u64 r3, .int .u64 r4] 29)) w') => kaddS10 hB kk (fun h => h) (fun h => h))
      have hn2 : ¬ (wr.heap.size = g ∨ ob A' = some wr.heap.size) := by
        have h1 := hP.blk.lt
        have h2 := hP.own.lt
        rw [ownBlock_slice] at h2
        rintro (h | h)
        · omega
        · have := (h2 _ h).2; omega
      have hn1 : ¬ (w.heap.size = g ∨ ob A' = some w.heap.size) := by
        rintro (h | h)
        · exact hgb h.symm
        · exact hfb h
      have HM4 := Lib.hid (fun w' (k4 : Keeps (fun i => i = g ∨ ob A' = some i) (wr.alloc (.cells #[.int .u64 r1, .int .u64 r2, .int .u64 r3, .int .u64 r4] 29)) w') => kaddS10 hB k4 hn1 hn2)
      have HA := Lib.hid (fun w' (kk : Keeps (fun _ => False) (wr.alloc (.cells #[.int .u64 r1, .int .u64 r2, .int .u64 r3, .int .u64 r4] 29)) w') => kApp10 w' base g A' (n + k) c' _ r1 ((hP.new ((Keeps.refl _ wr).alloc _)).new kk) (by omega))
      have HK := Lib.hid hK
      have HAB := Lib.hid hA
      have HB := Lib.hid hB
      have kk := (Keeps.refl (fun _ => False) (wr.alloc (.cells #[.int .u64 r1, .int .u64 r2, .int .u64 r3, .int .u64 r4] 29))).drew
      clear hP hK hA hB hrk
      simp only at x0 x1 x2 x3 hr1 HTK
      go_wp2_with fail
      go_region_held3 (fun w' => KaddS10 w.heap.size wr.heap.size g r1 r2 r3 r4 w') (first | exact HM.out _ kk | exact HM4.out _ k4) (first
        | (go_at_call 39; refine (kin10 _ r1 r2 r3 r4 hr1.1 hr1.2).mono ?_; rintro e w3 ⟨rfl, K3⟩; have kk := kk.trans K3 (fun _ _ h => h))
        | (go_at_call 222; refine (HA.out _ kk).mono ?_; rintro e w4 ⟨A4, c4, rfl, hP4, K4, hat4⟩; have k4 := (kk.mono (S' := fun i => i = g ∨ ob A' = some i) (fun _ _ h => h.elim)).trans K4 (fun _ _ h => h)))
      all_goals
        go_wp2_with fail
        go_roundw
        case rel =>
          have kw := HK.out.trans (((Keeps.refl (fun i => i = g ∨ ob A' = some i) wr).alloc (.cells #[.int .u64 r1, .int .u64 r2, .int .u64 r3, .int .u64 r4] 29)).trans k4 (fun _ _ h => h)) (fun i hi h => by
            rcases h with h | h
            · exact .inl h
            · rcases HAB.out with e | e
              · exact .inr (e ▸ h)
              · have := e i h; omega)
          refine ⟨k + 1, A4, c4, by omega, by go_num, ?_, kw, ?_, ?_⟩
          · rw [← HTK.out, ← List.append_assoc]; exact hP4
          · rcases hat4 with e | e
            · rw [e]; exact HAB.out
            · exact .inr (fun i hi => by have := e i hi; have := kk.size; have := HK.out.size; rw [World.size_alloc] at *; omega)
          · exact HB.out.keeps (((Keeps.refl (fun i => i = g ∨ ob A' = some i) wr).alloc (.cells #[.int .u64 r1, .int .u64 r2, .int .u64 r3, .int .u64 r4] 29)).trans k4 (fun _ _ h => h)) hn1
        case measure => (first | (simp [RowKit.intOf]; done) | (simp [RowKit.intOf]; omega))
    · have hkm : k = m := by omega
      subst hkm
      rw [List.take_of_length_le (by rw [HU.out.1]; exact Nat.le_refl _)] at hP
      have HP := Lib.hid hP
      have HK := Lib.hid hK
      have HAB := Lib.hid hA
      clear hP hK hA hB
      go_wp2_with fail
      go_end0
      exact ⟨A', c', rfl, HP.out, HK.out, HAB.out⟩
end Go.Proofs.YtoilbojaenfalaaGreat
