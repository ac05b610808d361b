/- spec.PKHello. Conditions: short strings, numbers of 31 bits. -/
import Derived.Test.YtgnlfbekkddmiaaHelloSpec
import Derived.Deep.RegionHeld3
namespace Go.Proofs.Ytgnlfbekkddmiaa
open Go.RowKit Go.Lib
set_option linter.unusedVariables false
theorem cellHeld {w w' : World} {p : Addr} {v : Value} (hK : Keeps (fun _ => False) w w') (h : w.cell? p = some v) : w'.cell? p = some v := by
  have hlt : p.block < w.heap.size := by
    rcases Nat.lt_or_ge p.block w.heap.size with h' | h'
    · exact h'
    · simp [World.cell?, Array.getElem?_eq_none h'] at h
  exact (hK.cell hlt (fun h => h)).trans h
theorem keepB {W w7 : World} {g : Nat} {t0 : ByteArray} {x1 : Nat} {x2 : Nat} {x3 : Nat} {t4 : ByteArray} {t5 : ByteArray} {t6 : ByteArray} (hK : Keeps (fun _ => False) W w7) (h : W.cell? ⟨g, 0, none⟩ = some (.string t0) ∧ W.cell? ⟨g, 1, none⟩ = some (.int .i64 x1) ∧ W.cell? ⟨g, 2, none⟩ = some (.int .i64 x2) ∧ W.cell? ⟨g, 3, none⟩ = some (.int .i64 x3) ∧ W.cell? ⟨g, 4, none⟩ = some (.string t4) ∧ W.cell? ⟨g, 5, none⟩ = some (.string t5) ∧ W.cell? ⟨g, 6, none⟩ = some (.string t6)) : w7.cell? ⟨g, 0, none⟩ = some (.string t0) ∧ w7.cell? ⟨g, 1, none⟩ = some (.int .i64 x1) ∧ w7.cell? ⟨g, 2, none⟩ = some (.int .i64 x2) ∧ w7.cell? ⟨g, 3, none⟩ = some (.int .i64 x3) ∧ w7.cell? ⟨g, 4, none⟩ = some (.string t4) ∧ w7.cell? ⟨g, 5, none⟩ = some (.string t5) ∧ w7.cell? ⟨g, 6, none⟩ = some (.string t6) := by
  obtain ⟨h0, h1, h2, h3, h4, h5, h6⟩ := h
  exact ⟨cellHeld hK h0, cellHeld hK h1, cellHeld hK h2, cellHeld hK h3, cellHeld hK h4, cellHeld hK h5, cellHeld hK h6⟩

theorem cellGrown {w w' : World} {row : Option Nat} {p : Addr} {v : Value} (hg : w.grownBy w' row) (hr : ∀ k, row = some k → p.block < k) (h : w.cell? p = some v) : w'.cell? p = some v := by
  have hlt : p.block < w.heap.size := by
    rcases Nat.lt_or_ge p.block w.heap.size with h' | h'
    · exact h'
    · simp [World.cell?, Array.getElem?_eq_none h'] at h
  exact (World.cell?_of_block (hg.block _ hlt (fun e => by have := hr _ e.symm; omega))).trans h
theorem keepG {W w7 : World} {row : Option Nat} {g : Nat} {t0 : ByteArray} {x1 : Nat} {x2 : Nat} {x3 : Nat} {t4 : ByteArray} {t5 : ByteArray} {t6 : ByteArray} (hg : W.grownBy w7 row) (hr : ∀ k, row = some k → g < k) (h : W.cell? ⟨g, 0, none⟩ = some (.string t0) ∧ W.cell? ⟨g, 1, none⟩ = some (.int .i64 x1) ∧ W.cell? ⟨g, 2, none⟩ = some (.int .i64 x2) ∧ W.cell? ⟨g, 3, none⟩ = some (.int .i64 x3) ∧ W.cell? ⟨g, 4, none⟩ = some (.string t4) ∧ W.cell? ⟨g, 5, none⟩ = some (.string t5) ∧ W.cell? ⟨g, 6, none⟩ = some (.string t6)) : w7.cell? ⟨g, 0, none⟩ = some (.string t0) ∧ w7.cell? ⟨g, 1, none⟩ = some (.int .i64 x1) ∧ w7.cell? ⟨g, 2, none⟩ = some (.int .i64 x2) ∧ w7.cell? ⟨g, 3, none⟩ = some (.int .i64 x3) ∧ w7.cell? ⟨g, 4, none⟩ = some (.string t4) ∧ w7.cell? ⟨g, 5, none⟩ = some (.string t5) ∧ w7.cell? ⟨g, 6, none⟩ = some (.string t6) := by
  obtain ⟨h0, h1, h2, h3, h4, h5, h6⟩ := h
  exact ⟨cellGrown hg hr h0, cellGrown hg hr h1, cellGrown hg hr h2, cellGrown hg hr h3, cellGrown hg hr h4, cellGrown hg hr h5, cellGrown hg hr h6⟩

set_option maxRecDepth 100000 in
set_option maxHeartbeats 4000000 in
theorem helloSpec (w : World) (t0 : ByteArray) (x1 : Nat) (x2 : Nat) (x3 : Nat) (t4 : ByteArray) (t5 : ByteArray) (t6 : ByteArray) (h0 : t0.size ≤ 1000) (h1 : x1 < 2147483648) (h2 : x2 < 2147483648) (h3 : x3 < 2147483648) (h4 : t4.size ≤ 1000) (h5 : t5.size ≤ 1000) (h6 : t6.size ≤ 1000) :
    Calls Try.prog 16 #[.agg #[.string t0, .int .i64 x1, .int .i64 x2, .int .i64 x3, .string t4, .string t5, .string t6]] w fun e w' => ∃ A c, e = .returned (.slice A (strB t0 ++ (Lib.uvarint x1 ++ (Lib.uvarint x2 ++ (Lib.uvarint x3 ++ (strB t4 ++ (strB t5 ++ (strB t6))))))).length c) ∧ w'.ownsRow w.heap.size 5 1 (.slice A (strB t0 ++ (Lib.uvarint x1 ++ (Lib.uvarint x2 ++ (Lib.uvarint x3 ++ (strB t4 ++ (strB t5 ++ (strB t6))))))).length c) (strB t0 ++ (Lib.uvarint x1 ++ (Lib.uvarint x2 ++ (Lib.uvarint x3 ++ (strB t4 ++ (strB t5 ++ (strB t6))))))).length (Lib.byteCells (strB t0 ++ (Lib.uvarint x1 ++ (Lib.uvarint x2 ++ (Lib.uvarint x3 ++ (strB t4 ++ (strB t5 ++ (strB t6)))))))) ∧ Keeps (fun _ => False) w w' ∧ ∀ k, ob A = some k → w.heap.size ≤ k := by
  obtain ⟨i0, hi0, hz0, hz1, hz2⟩ := info_parts infoU8
  have CT := Lib.hid (fun w => pkText w t0 (by omega))
  have CI := Lib.hid (fun w g t hW => pkInts3 w g t x1 x2 x3 h1 h2 h3 hW)
  have CS := Lib.hid (fun w g t hW => pkTexts3 w g t t4 t5 t6 h4 h5 h6 hW)
  have K0 := (Keeps.refl (fun _ => False) w).alloc (.cells #[.string t0, .int .i64 x1, .int .i64 x2, .int .i64 x3, .string t4, .string t5, .string t6] 36)
  have hW0 := Whole.new w 36 #[.string t0, .int .i64 x1, .int .i64 x2, .int .i64 x3, .string t4, .string t5, .string t6]
  have hall : strB t0 ++ (Lib.uvarint x1 ++ (Lib.uvarint x2 ++ (Lib.uvarint x3 ++ (strB t4 ++ (strB t5 ++ (strB t6)))))) = strB t0 ++ ((Lib.uvarint x1 ++ (Lib.uvarint x2 ++ Lib.uvarint x3)) ++ (strB t4 ++ (strB t5 ++ strB t6))) := by simp
  rw [hall]
  clear hall
  have l0 : (strB t0).length ≤ 1010 := by have := Lib.uvarint_length64 (x := t0.size) (by omega); rw [strB, List.length_append, sl_length]; omega
  have l1 : (Lib.uvarint x1 ++ (Lib.uvarint x2 ++ Lib.uvarint x3)).length ≤ 30 := by have := Lib.uvarint_length64 (x := x1) (by omega); have := Lib.uvarint_length64 (x := x2) (by omega); have := Lib.uvarint_length64 (x := x3) (by omega); simp only [List.length_append]; omega
  have l2 : (strB t4 ++ (strB t5 ++ strB t6)).length ≤ 3030 := by have := Lib.uvarint_length64 (x := t4.size) (by omega); have := Lib.uvarint_length64 (x := t5.size) (by omega); have := Lib.uvarint_length64 (x := t6.size) (by omega); simp only [strB, List.length_append, sl_length]; omega
  generalize strB t0 = d0 at *
  generalize Lib.uvarint x1 ++ (Lib.uvarint x2 ++ Lib.uvarint x3) = d1 at *
  generalize strB t4 ++ (strB t5 ++ strB t6) = d2 at *
  clear h0 h1 h2 h3 h4 h5 h6
  go_enter Try.func16, Try.ntmps16
  go_wp2_with fail
  have hs0 : (fun w' => w'.cell? ⟨w.heap.size, 0, none⟩ = some (.string t0) ∧ w'.cell? ⟨w.heap.size, 1, none⟩ = some (.int .i64 x1) ∧ w'.cell? ⟨w.heap.size, 2, none⟩ = some (.int .i64 x2) ∧ w'.cell? ⟨w.heap.size, 3, none⟩ = some (.int .i64 x3) ∧ w'.cell? ⟨w.heap.size, 4, none⟩ = some (.string t4) ∧ w'.cell? ⟨w.heap.size, 5, none⟩ = some (.string t5) ∧ w'.cell? ⟨w.heap.size, 6, none⟩ = some (.string t6)) (w.alloc (.cells #[.string t0, .int .i64 x1, .int .i64 x2, .int .i64 x3, .string t4, .string t5, .string t6] 36)) := ⟨hW0.cell 0, hW0.cell 1, hW0.cell 2, hW0.cell 3, hW0.cell 4, hW0.cell 5, hW0.cell 6⟩
  go_region_held3 (fun w' => w'.cell? ⟨w.heap.size, 0, none⟩ = some (.string t0) ∧ w'.cell? ⟨w.heap.size, 1, none⟩ = some (.int .i64 x1) ∧ w'.cell? ⟨w.heap.size, 2, none⟩ = some (.int .i64 x2) ∧ w'.cell? ⟨w.heap.size, 3, none⟩ = some (.int .i64 x3) ∧ w'.cell? ⟨w.heap.size, 4, none⟩ = some (.string t4) ∧ w'.cell? ⟨w.heap.size, 5, none⟩ = some (.string t5) ∧ w'.cell? ⟨w.heap.size, 6, none⟩ = some (.string t6)) (first | exact hs0 | exact hs1 | exact hs2 | exact hs3 | go_keep) (first | (go_at_call 29; refine (CT.out _).mono ?_; rintro e w1 ⟨A1, c1, rfl, o1, K1, hA1⟩; have hs1 := keepB K1 (by assumption)) | (go_at_call 30; refine (CI.out _ _ _ (by first | exact Whole.new _ _ _ | (have h := Whole.keeps (Whole.new ((w.alloc (.cells #[.string t0, .int .i64 x1, .int .i64 x2, .int .i64 x3, .string t4, .string t5, .string t6] 36)).drew) 3 #[.int .i64 x1, .int .i64 x2, .int .i64 x3]) K1 (fun h => h); rw [show ((w.alloc (.cells #[.string t0, .int .i64 x1, .int .i64 x2, .int .i64 x3, .string t4, .string t5, .string t6] 36)).drew).heap.size = w.heap.size + 1 by simp] at h; exact h))).mono ?_; rintro e w2 ⟨A2, c2, rfl, o2, K2, hA2⟩; have hs2 := keepB K2 (by assumption); have hKw : Keeps (fun _ => False) w w2 := (by first | exact ((K0.alloc _).drew.trans K1 (fun _ _ h => h)).trans K2 (fun _ _ h => h) | exact ((K0.drew.trans K1 (fun _ _ h => h)).alloc _).trans K2 (fun _ _ h => h)); have hA1w : ∀ k, ob A1 = some k → w.heap.size ≤ k := (fun k hk => by have := hA1 k hk; simp at this; omega)) | (refine step_append_rd _ rfl (.tmp 6) (.tmp 14) _ rfl w.heap.size 5 i0 _ 1 1 Try.underlying22 hi0 hz0 hz1 hz2 rfl Nat.one_pos A1 c1 _ _ rfl (by first | exact own_keeps (own_keeps (own_lo o1 (by first | (simp; done) | (simp; omega))) ((Keeps.refl (fun _ => False) _).alloc _) (fun _ _ h => h)) K2 (fun _ _ h => h) | exact own_keeps (own_lo o1 (by first | (simp; done) | (simp; omega))) K2 (fun _ _ h => h)) A2 _ c2 _ rfl (Rd.own o2) (byteCells_one _) (by simp only [maxLen]; omega) (by omega) hKw.size ?_; intro A3 c3 w3 o3 hg3 hat3; have hs3 := keepG hg3 (fun k hk => by have := hA1 k hk; simp at this; omega) hs2; have K3 := hKw.grown hg3 (fun k hk => .inr (hA1w k hk))))
  all_goals
    rw [← Lib.byteCells_append] at o3
    obtain ⟨b0, b1, b2, b3, b4, b5, b6⟩ := hs3
    have k3l := K3.size
    have HB := Lib.hid (o3.lt)
    clear hs0 hs1 hs2 CT CI
    go_wp2_with fail
    refine (CS.out _ _ _ (Whole.new _ _ _)).mono ?_
    rintro e w4 ⟨A4, c4, rfl, o4, K4, hA4⟩
    have o34 := own_keeps (own_keeps o3 ((Keeps.refl (fun _ => False) _).alloc _) (fun _ _ h => h)) K4 (fun _ _ h => h)
    have K34 := (K3.alloc _).trans K4 (fun _ _ h => h)
    go_wp2_with (at_builtin; refine wpList_append_rd _ rfl (.tmp 16) (.tmp 24) _ rfl w.heap.size 5 i0 _ 1 1 Try.underlying22 hi0 hz0 hz1 hz2 rfl Nat.one_pos A3 c3 (d0.length + d1.length) _ rfl o34 A4 d2.length c4 _ rfl (Rd.own o4) (byteCells_one _) (by simp only [maxLen]; omega) (by omega) K34.size ?_; intro A5 c5 w5 o5 hg5 hat5; rw [← Lib.byteCells_append] at o5; have K5 := K34.grown hg5 (fun k hk => .inr (HB.out k (by rw [ownBlock_slice]; exact hk)).1))
    go_ret
    have e : d0 ++ (d1 ++ d2) = d0 ++ d1 ++ d2 := by simp
    have e2 : (d0 ++ (d1 ++ d2)).length = d0.length + d1.length + d2.length := by rw [e]; simp only [List.length_append]
    rw [e2, e]
    exact ⟨A5, c5, rfl, o5, K5, fun k hk => (o5.lt k (by rw [ownBlock_slice]; exact hk)).1⟩
end Go.Proofs.Ytgnlfbekkddmiaa
