/- A type of vectors, parsed. Conditions: texts of at most 1000 bytes; what the table of spaces holds. -/
import Derived.Test.YtlkaofhdllkgfaaDoorIdx
import Derived.Test.YtlkaofhdllkgfaaDoorCtO
import Derived.Test.YtlkaofhdllkgfaaDoorShelf
import Derived.Lib.LaidTab
import Derived.Lib.SmallJoins
namespace Go.Proofs.YtlkaofhdllkgfaaDoor
open Go.RowKit Go.Lib
set_option linter.unusedVariables false
set_option maxRecDepth 10000 in
set_option maxHeartbeats 800000 in
theorem splitTwo (w : World) (s1 s2 sep t1 : ByteArray) (k1 : Nat) (hk1 : k1 ≤ 2147483647) (hsep : sep.size = 1)
    (hI1 : ∀ w, Calls Tryd.prog 17 #[.string s1, .string sep] w fun e w' => e = .returned (.int .i64 k1) ∧ w = w') (hI2 : ∀ w, Calls Tryd.prog 17 #[.string s2, .string sep] w fun e w' => e = .returned (.int .i64 (-1)) ∧ w = w')
    (h1 : ∀ w, (Instr.slice 9 (.string s1) none (some (.int .i64 (k1 : Int))) none).run Tryd.prog w = .ok (.string t1) w) (h2 : ∀ w, (Instr.slice 9 (.string s1) (some (.int .i64 ((k1 : Int) + 1))) none none).run Tryd.prog w = .ok (.string s2) w) :
    Calls Tryd.prog 11 #[.string s1, .string sep] w fun e w' => ∃ A c, e = .returned (.slice A 2 c) ∧ w'.ownsRow w.heap.size 9 1 (.slice A 2 c) 2 [.string t1, .string s2] ∧ Keeps (fun _ => False) w w' := by
  obtain ⟨i0, hi0, hz0, hz1, hz2⟩ := info_parts infoStrE
  have e1 : IntKind.i64.wrap ((k1 : Int) + 1) = (k1 : Int) + 1 := by apply wrapI <;> omega
  have HI1 := Lib.hid hI1
  have HI2 := Lib.hid hI2
  clear hI1 hI2 hk1
  go_enter Tryd.func11, Tryd.ntmps11
  go_wp2_with fail
  refine wp_loop_rounds 2 ?_
  rw [rounds_succ]
  go_wp2_with fail
  refine (HI1.out _).mono ?_
  rintro e w1 ⟨rfl, rfl⟩
  have hk0 := (Keeps.refl (fun _ => False) w).alloc (.cells #[.string t1] 9)
  go_wp2_with (
    at_builtin
    refine wpList_append_rd _ rfl (.tmp 46) (.tmp 50) _ rfl w.heap.size 9 i0 _ 1 16 Tryd.underlying23 hi0 hz0 hz1 hz2 rfl Nat.one_pos none 0 0 _ rfl (World.ownsRow_nil _ _ _ _) (some ⟨w.heap.size, 0, none⟩) 1 1 [.string t1] rfl (rd_one w 9 _) (one_val _ rfl) (by simp only [maxLen]; omega) (by omega) hk0.size ?_
    intro A1 c1 w1 o1 hg1 hat1
    have K1 := hk0.grown hg1 (fun k hk => by cases hk)
    rw [List.nil_append, Nat.zero_add] at o1
    rw [Nat.zero_add])
  rw [rounds_succ]
  go_wp2_with fail
  refine (HI2.out _).mono ?_
  rintro e w3 ⟨rfl, rfl⟩
  have hk2 := K1.alloc (.cells #[.string s2] 9)
  go_wp2_with (
    at_builtin
    refine wpList_append_rd _ rfl (.tmp 42) (.tmp 44) _ rfl w.heap.size 9 i0 _ 1 16 Tryd.underlying23 hi0 hz0 hz1 hz2 rfl Nat.one_pos A1 c1 1 _ rfl (o1.alloc _) (some ⟨w1.heap.size, 0, none⟩) 1 1 [.string s2] rfl (rd_one w1 9 _) (one_val _ rfl) (by simp only [maxLen]; omega) (by omega) hk2.size ?_
    intro A3 c3 w3 o3 hg3 hat3
    have K3 := hk2.grown hg3 (fun k hk => .inr (o1.lt k (by rw [ownBlock_slice]; exact hk)).1)
    rw [List.cons_append, List.nil_append] at o3)
  go_ret
  exact ⟨A3, c3, rfl, o3, K3⟩
theorem two_cells {w : World} {b : Nat} {A : Option Addr} {c : Nat} {x y : Value} (h : w.ownsRow b 9 1 (.slice A 2 c) 2 [x, y]) : ∃ g, A = some ⟨g, 0, none⟩ ∧ g < w.heap.size ∧ w.cell? ⟨g, 0, none⟩ = some x ∧ w.cell? ⟨g, 1, none⟩ = some y := by
  obtain ⟨g, c0, hA, _, hlt⟩ := h.form (by omega)
  injection hA with hA _ hc
  subst hA
  exact ⟨g, rfl, hlt, by simpa using h.cellAt 0 (by omega), by simpa using h.cellAt 1 (by omega)⟩
theorem cell_kept {w w' : World} {g o : Nat} {v : Value} (h : w.cell? ⟨g, o, none⟩ = some v) (hg : g < w.heap.size) (K : Keeps (fun _ => False) w w') : w'.cell? ⟨g, o, none⟩ = some v := (K.cell (p := ⟨g, o, none⟩) hg (fun h => h)).trans h
theorem split2 (a b : List UInt8) (hl : (a ++ 44 :: b).length ≤ 1000) (ha : ∀ x ∈ a, ¬ x = 44) (hb : ∀ x ∈ b, ¬ x = 44) (w : World) :
    Calls Tryd.prog 11 #[.string (sOf (a ++ 44 :: b)), .string ⟨#[44]⟩] w fun e w' => ∃ A c, e = .returned (.slice A 2 c) ∧ w'.ownsRow w.heap.size 9 1 (.slice A 2 c) 2 [.string (sOf a), .string (sOf b)] ∧ Keeps (fun _ => False) w w' :=
  splitTwo w _ _ _ _ a.length (by rw [List.length_append] at hl; omega) rfl (index_at a b 44 hl ha) (index_none b 44 (by rw [List.length_append, List.length_cons] at hl; omega) hb) (to_at a b 44) (from_at a b 44)
/-! ### the text of the type -/
theorem sOf_get (l : List UInt8) (k : Nat) (h : k < (sOf l).size) : (sOf l)[k] = l[k]'(by rwa [sOf_size] at h) := by
  show (sOf l).data[k] = _
  simp
def qt (E D : List UInt8) : List UInt8 := [81, 66, 105, 116] ++ 40 :: (E ++ 44 :: 32 :: D) ++ [41]
theorem qt_len (E D : List UInt8) : (qt E D).length = E.length + D.length + 8 := by simp [qt]; omega
def noPar (l : List UInt8) : Prop := ∀ x ∈ l, ¬ x = 40 ∧ ¬ x = 41 ∧ ¬ x = 44
theorem qt_end (E D : List UInt8) (j : Nat) (h : j < (qt E D).length) (hj : j + 1 = (qt E D).length) : (qt E D)[j] = 41 := by
  have : (qt E D)[j]? = some 41 := by
    rw [qt_len] at hj
    unfold qt
    rw [List.getElem?_append_right (by simp; omega)]
    simp
    rw [show j - (E.length + (D.length + 1 + 1) + 1 + 4) = 0 by omega]
    rfl
  rw [List.getElem?_eq_getElem h] at this
  exact Option.some.inj this
theorem u8i {a : UInt8} {n : Nat} (hn : n < 256) : ((a.toNat : Int) = (n : Int)) ↔ a = UInt8.ofNat n := by
  constructor
  · intro h
    apply UInt8.toNat_inj.1
    rw [UInt8.toNat_ofNat', Nat.mod_eq_of_lt (by omega)]
    omega
  · rintro rfl
    rw [UInt8.toNat_ofNat', Nat.mod_eq_of_lt (by omega)]
theorem idx40 (E D : List UInt8) (hl : (qt E D).length ≤ 1000) (w : World) : Calls Tryd.prog 14 #[.string (sOf (qt E D)), .int .u8 40] w fun e w' => e = .returned (.int .i64 ((4 : Nat) : Int)) ∧ w = w' := by
  have hq := qt_len E D
  refine zzIndex_at w _ 40 4 (by rw [sOf_size]; omega) (by rw [sOf_size]; omega) ?_ ?_
  · rw [sOf_get]; rfl
  · intro j h
    rw [sOf_get]
    have : j = 0 ∨ j = 1 ∨ j = 2 ∨ j = 3 := by omega
    rcases this with rfl | rfl | rfl | rfl
    · show ¬ ((81 : UInt8).toNat : Int) = 40; decide
    · show ¬ ((66 : UInt8).toNat : Int) = 40; decide
    · show ¬ ((105 : UInt8).toNat : Int) = 40; decide
    · show ¬ ((116 : UInt8).toNat : Int) = 40; decide
theorem idx41 (E D : List UInt8) (hl : (qt E D).length ≤ 1000) (w : World) : Calls Tryd.prog 15 #[.string (sOf (qt E D)), .int .u8 41] w fun e w' => e = .returned (.int .i64 ((E.length + D.length + 7 : Nat) : Int)) ∧ w = w' := by
  have hq := qt_len E D
  refine zzLast_at w _ 41 (E.length + D.length + 7) (by rw [sOf_size]; omega) (by rw [sOf_size]; omega) ?_ ?_
  · rw [sOf_get, qt_end E D _ (by omega) (by omega)]; rfl
  · intro j h hj
    rw [sOf_size] at h
    omega
theorem qt_base (E D : List UInt8) : (sOf (qt E D)).extract 0 4 = sOf [81, 66, 105, 116] := by rw [sOf_ex]; rfl
theorem qt_elem (E D : List UInt8) : (sOf (qt E D)).extract 5 (E.length + D.length + 7) = sOf (E ++ 44 :: 32 :: D) := by
  rw [sOf_ex]
  congr 1
  unfold qt
  simp only [List.cons_append, List.nil_append, List.drop_succ_cons, List.drop_zero]
  rw [List.take_left' (by simp; omega)]
set_option maxRecDepth 10000 in
theorem baseV (w : World) (s b : ByteArray) (m : Nat) (h0 : s.toList.isEmpty = false) (hm : 4 < m) (hm2 : m ≤ 1000)
    (h1 : ∀ w, Calls Tryd.prog 14 #[.string s, .int .u8 40] w fun e w' => e = .returned (.int .i64 ((4 : Nat) : Int)) ∧ w = w') (h2 : ∀ w, Calls Tryd.prog 15 #[.string s, .int .u8 41] w fun e w' => e = .returned (.int .i64 (m : Int)) ∧ w = w')
    (hb : ∀ w, (Instr.slice 29 (.string s) none (some (.int .i64 4)) none).run Tryd.prog w = .ok (.string b) w) :
    Calls Tryd.prog 8 #[.string s] w fun e w' => e = .returned (.string b) ∧ w = w' := by
  have H1 := Lib.hid h1
  have H2 := Lib.hid h2
  have g1 : ¬ ((m : Int) ≤ 0) := by omega
  have g2 : ¬ ((m : Int) < 4) := by omega
  clear h1 h2
  go_enter Tryd.func8, Tryd.ntmps8
  go_wp2_with fail
  refine (H1.out _).mono ?_
  rintro e w1 ⟨rfl, rfl⟩
  go_wp2_with fail
  refine (H2.out _).mono ?_
  rintro e w1 ⟨rfl, rfl⟩
  go_wp2_with fail
  go_ret
  exact ⟨rfl, rfl⟩
set_option maxRecDepth 10000 in
theorem elemV (w : World) (s b : ByteArray) (m : Nat) (h0 : s.toList.isEmpty = false) (hm : 4 < m) (hm2 : m ≤ 1000)
    (h1 : ∀ w, Calls Tryd.prog 14 #[.string s, .int .u8 40] w fun e w' => e = .returned (.int .i64 ((4 : Nat) : Int)) ∧ w = w') (h2 : ∀ w, Calls Tryd.prog 15 #[.string s, .int .u8 41] w fun e w' => e = .returned (.int .i64 (m : Int)) ∧ w = w')
    (hb : ∀ w, (Instr.slice 29 (.string s) (some (.int .i64 5)) (some (.int .i64 (m : Int))) none).run Tryd.prog w = .ok (.string b) w) :
    Calls Tryd.prog 10 #[.string s] w fun e w' => e = .returned (.string b) ∧ w = w' := by
  have H1 := Lib.hid h1
  have H2 := Lib.hid h2
  have g1 : ¬ ((m : Int) ≤ 0) := by omega
  have g2 : ¬ ((m : Int) < 4) := by omega
  clear h1 h2
  go_enter Tryd.func10, Tryd.ntmps10
  go_wp2_with fail
  refine (H1.out _).mono ?_
  rintro e w1 ⟨rfl, rfl⟩
  go_wp2_with fail
  refine (H2.out _).mono ?_
  rintro e w1 ⟨rfl, rfl⟩
  go_wp2_with fail
  go_ret
  exact ⟨rfl, rfl⟩
end Go.Proofs.YtlkaofhdllkgfaaDoor
