/- The walk of the law on the client's hello. -/
import Derived.Test.YtgnlfbekkddmiaaHelloSides
import Derived.Test.YtgnlfbekkddmiaaHelloGet
import Derived.Test.YtgnlfbekkddmiaaClone
import Derived.Test.YtgnlfbekkddmiaaCut
namespace Go.Proofs.Ytgnlfbekkddmiaa
open Go.RowKit Go.Lib
set_option linter.unusedVariables false

theorem helloGet_cut (w : World) (A : Option Addr) (c : Nat) (t0 : ByteArray) (x1 : Nat) (x2 : Nat) (x3 : Nat) (t4 : ByteArray) (t5 : ByteArray) (t6 : ByteArray) (h0 : t0.size ≤ 1000) (h1 : x1 < 2147483648) (h2 : x2 < 2147483648) (h3 : x3 < 2147483648) (h4 : t4.size ≤ 1000) (h5 : t5.size ≤ 1000) (h6 : t6.size ≤ 1000) (l : List UInt8) (hl : l = 0 :: (strB t0 ++ (Lib.uvarint x1 ++ (Lib.uvarint x2 ++ (Lib.uvarint x3 ++ (strB t4 ++ (strB t5 ++ (strB t6)))))))) (mm : Nat) (hmm : mm < l.length) (hR : Rd w 1 A mm (Lib.byteCells (l.take mm))) (hc : mm ≤ c) (hA : ∀ i, ob A = some i → i < w.heap.size) :
    Calls Try.prog 17 #[.slice A mm c] w fun e w' => e = .returned (.tuple #[.agg #[.string ⟨#[]⟩, .int .i64 0, .int .i64 0, .int .i64 0, .string ⟨#[]⟩, .string ⟨#[]⟩, .string ⟨#[]⟩], .int .i64 0, .bool false]) ∧ Keeps (fun _ => False) w w' := by
  cases mm with
  | zero => exact helloGet_none w A c hA
  | succ j =>
    have hj : j < (strB t0 ++ (Lib.uvarint x1 ++ (Lib.uvarint x2 ++ (Lib.uvarint x3 ++ (strB t4 ++ (strB t5 ++ (strB t6))))))).length := by rw [hl, List.length_cons] at hmm; omega
    have e : l.take (j + 1) = 0 :: (strB t0 ++ (Lib.uvarint x1 ++ (Lib.uvarint x2 ++ (Lib.uvarint x3 ++ (strB t4 ++ (strB t5 ++ (strB t6))))))).take j := by rw [hl, List.take_succ_cons]
    have en : (0 :: (strB t0 ++ (Lib.uvarint x1 ++ (Lib.uvarint x2 ++ (Lib.uvarint x3 ++ (strB t4 ++ (strB t5 ++ (strB t6))))))).take j : List UInt8).length = j + 1 := by rw [List.length_cons, List.length_take]; omega
    have h := helloGet_err w A c t0 x1 x2 x3 t4 t5 t6 h0 h1 h2 h3 h4 h5 h6 (0 :: (strB t0 ++ (Lib.uvarint x1 ++ (Lib.uvarint x2 ++ (Lib.uvarint x3 ++ (strB t4 ++ (strB t5 ++ (strB t6))))))).take j) j hj rfl
    rw [en] at h
    rw [e] at hR
    exact h hR hc hA

set_option maxRecDepth 100000 in
set_option maxHeartbeats 2000000 in
theorem helE1 (w : World) (at_ nb cb : Nat) (t0 : ByteArray) (x1 : Int) (x2 : Int) (x3 : Int) (t4 : ByteArray) (t5 : ByteArray) (t6 : ByteArray) (AB : Option Addr) (h1 : ¬ (t0.size ≤ 2147483647 ∧ t4.size ≤ 2147483647 ∧ t5.size ≤ 2147483647 ∧ t6.size ≤ 2147483647)) :
    Calls Try.prog 4 #[.agg #[.string t0, .int .i64 x1, .int .i64 x2, .int .i64 x3, .string t4, .string t5, .string t6], .slice AB nb cb, .int .u16 at_] w fun e w' => e = .returned (.bool true) ∧ Below w.heap.size w w' := by
  have HZ := Lib.hid (fun w => zz14 w t0 x1 x2 x3 t4 t5 t6)
  have hz : decide (t0.size ≤ 2147483647 ∧ t4.size ≤ 2147483647 ∧ t5.size ≤ 2147483647 ∧ t6.size ≤ 2147483647) = false := decide_eq_false h1
  rw [hz] at HZ
  clear hz h1
  go_enter Try.func4, Try.ntmps4
  go_wp2_with fail
  refine (HZ.out _).mono ?_
  rintro e wv ⟨rfl, rfl⟩
  go_wp2_with fail
  go_ret
  exact ⟨rfl, ((Below.refl _ _).alloc (Nat.le_refl _) _).alloc (by simp) _⟩

set_option maxRecDepth 100000 in
set_option maxHeartbeats 2000000 in
theorem helE2 (w : World) (at_ nb cb : Nat) (t0 : ByteArray) (x1 : Int) (x2 : Int) (x3 : Int) (t4 : ByteArray) (t5 : ByteArray) (t6 : ByteArray) (AB : Option Addr) (h1 : t0.size ≤ 2147483647 ∧ t4.size ≤ 2147483647 ∧ t5.size ≤ 2147483647 ∧ t6.size ≤ 2147483647) (h2 : 2147483647 < nb) :
    Calls Try.prog 4 #[.agg #[.string t0, .int .i64 x1, .int .i64 x2, .int .i64 x3, .string t4, .string t5, .string t6], .slice AB nb cb, .int .u16 at_] w fun e w' => e = .returned (.bool true) ∧ Below w.heap.size w w' := by
  have HZ := Lib.hid (fun w => zz14 w t0 x1 x2 x3 t4 t5 t6)
  have hz : decide (t0.size ≤ 2147483647 ∧ t4.size ≤ 2147483647 ∧ t5.size ≤ 2147483647 ∧ t6.size ≤ 2147483647) = true := decide_eq_true h1
  rw [hz] at HZ
  clear hz h1
  have g2147483647 : (2147483647 : Int) < (nb : Int) := by omega
  clear h2
  go_enter Try.func4, Try.ntmps4
  go_wp2_with fail
  refine (HZ.out _).mono ?_
  rintro e wv ⟨rfl, rfl⟩
  go_wp2_with fail
  go_ret
  exact ⟨rfl, ((Below.refl _ _).alloc (Nat.le_refl _) _).alloc (by simp) _⟩

set_option maxRecDepth 100000 in
set_option maxHeartbeats 2000000 in
theorem helE3 (w : World) (at_ nb cb : Nat) (t0 : ByteArray) (x1 : Int) (x2 : Int) (x3 : Int) (t4 : ByteArray) (t5 : ByteArray) (t6 : ByteArray) (AB : Option Addr) (h1 : t0.size ≤ 2147483647 ∧ t4.size ≤ 2147483647 ∧ t5.size ≤ 2147483647 ∧ t6.size ≤ 2147483647) (h2 : ¬ 2147483647 < nb) (h3 : ¬ (t0.size ≤ 100 ∧ t4.size ≤ 100 ∧ t5.size ≤ 100 ∧ t6.size ≤ 100)) :
    Calls Try.prog 4 #[.agg #[.string t0, .int .i64 x1, .int .i64 x2, .int .i64 x3, .string t4, .string t5, .string t6], .slice AB nb cb, .int .u16 at_] w fun e w' => e = .returned (.bool true) ∧ Below w.heap.size w w' := by
  have HZ := Lib.hid (fun w => zz14 w t0 x1 x2 x3 t4 t5 t6)
  have hz : decide (t0.size ≤ 2147483647 ∧ t4.size ≤ 2147483647 ∧ t5.size ≤ 2147483647 ∧ t6.size ≤ 2147483647) = true := decide_eq_true h1
  rw [hz] at HZ
  clear hz h1
  have g2147483647 : ¬ (2147483647 : Int) < (nb : Int) := by omega
  clear h2
  have HSH := Lib.hid (fun w g t hW => pkShort4 w g t t0 t4 t5 t6 hW)
  have hs : decide (t0.size ≤ 100 ∧ t4.size ≤ 100 ∧ t5.size ≤ 100 ∧ t6.size ≤ 100) = false := decide_eq_false h3
  rw [hs] at HSH
  clear hs h3
  go_enter Try.func4, Try.ntmps4
  go_wp2_with fail
  refine (HZ.out _).mono ?_
  rintro e wv ⟨rfl, rfl⟩
  go_wp2_with fail
  have hWs : Whole (((w.alloc (.cells #[.string t0, .int .i64 x1, .int .i64 x2, .int .i64 x3, .string t4, .string t5, .string t6] 36)).alloc (.cells #[.string t0, .int .i64 x1, .int .i64 x2, .int .i64 x3, .string t4, .string t5, .string t6] 36)).alloc (.cells #[.string t0, .string t4, .string t5, .string t6] 9)) (w.heap.size + 1 + 1) 9 #[.string t0, .string t4, .string t5, .string t6] := by have h := Whole.new ((w.alloc (.cells #[.string t0, .int .i64 x1, .int .i64 x2, .int .i64 x3, .string t4, .string t5, .string t6] 36)).alloc (.cells #[.string t0, .int .i64 x1, .int .i64 x2, .int .i64 x3, .string t4, .string t5, .string t6] 36)) 9 #[.string t0, .string t4, .string t5, .string t6]; simp only [World.size_alloc] at h; exact h
  refine (HSH.out _ (w.heap.size + 1 + 1) 9 hWs).mono ?_
  rintro e wv ⟨rfl, rfl⟩
  go_wp2_with fail
  go_ret
  exact ⟨rfl, (((Below.refl _ _).alloc (Nat.le_refl _) _).alloc (by simp) _).alloc (by simp; omega) _⟩

set_option maxRecDepth 100000 in
set_option maxHeartbeats 2000000 in
theorem helE4 (w : World) (at_ nb cb : Nat) (t0 : ByteArray) (x1 : Int) (x2 : Int) (x3 : Int) (t4 : ByteArray) (t5 : ByteArray) (t6 : ByteArray) (AB : Option Addr) (h1 : t0.size ≤ 2147483647 ∧ t4.size ≤ 2147483647 ∧ t5.size ≤ 2147483647 ∧ t6.size ≤ 2147483647) (h2 : ¬ 2147483647 < nb) (h3 : t0.size ≤ 100 ∧ t4.size ≤ 100 ∧ t5.size ≤ 100 ∧ t6.size ≤ 100) (h4 : ¬ ((0 ≤ x1 ∧ x1 < 2147483648) ∧ (0 ≤ x2 ∧ x2 < 2147483648) ∧ (0 ≤ x3 ∧ x3 < 2147483648))) :
    Calls Try.prog 4 #[.agg #[.string t0, .int .i64 x1, .int .i64 x2, .int .i64 x3, .string t4, .string t5, .string t6], .slice AB nb cb, .int .u16 at_] w fun e w' => e = .returned (.bool true) ∧ Below w.heap.size w w' := by
  have HZ := Lib.hid (fun w => zz14 w t0 x1 x2 x3 t4 t5 t6)
  have hz : decide (t0.size ≤ 2147483647 ∧ t4.size ≤ 2147483647 ∧ t5.size ≤ 2147483647 ∧ t6.size ≤ 2147483647) = true := decide_eq_true h1
  rw [hz] at HZ
  clear hz h1
  have g2147483647 : ¬ (2147483647 : Int) < (nb : Int) := by omega
  clear h2
  have HSH := Lib.hid (fun w g t hW => pkShort4 w g t t0 t4 t5 t6 hW)
  have hs : decide (t0.size ≤ 100 ∧ t4.size ≤ 100 ∧ t5.size ≤ 100 ∧ t6.size ≤ 100) = true := decide_eq_true h3
  rw [hs] at HSH
  clear hs h3
  have HWH := Lib.hid (fun w g t hW => pkWhole3 w g t x1 x2 x3 hW)
  have hw : decide ((0 ≤ x1 ∧ x1 < 2147483648) ∧ (0 ≤ x2 ∧ x2 < 2147483648) ∧ (0 ≤ x3 ∧ x3 < 2147483648)) = false := decide_eq_false h4
  rw [hw] at HWH
  clear hw h4
  go_enter Try.func4, Try.ntmps4
  go_wp2_with fail
  refine (HZ.out _).mono ?_
  rintro e wv ⟨rfl, rfl⟩
  go_wp2_with fail
  have hWs : Whole (((w.alloc (.cells #[.string t0, .int .i64 x1, .int .i64 x2, .int .i64 x3, .string t4, .string t5, .string t6] 36)).alloc (.cells #[.string t0, .int .i64 x1, .int .i64 x2, .int .i64 x3, .string t4, .string t5, .string t6] 36)).alloc (.cells #[.string t0, .string t4, .string t5, .string t6] 9)) (w.heap.size + 1 + 1) 9 #[.string t0, .string t4, .string t5, .string t6] := by have h := Whole.new ((w.alloc (.cells #[.string t0, .int .i64 x1, .int .i64 x2, .int .i64 x3, .string t4, .string t5, .string t6] 36)).alloc (.cells #[.string t0, .int .i64 x1, .int .i64 x2, .int .i64 x3, .string t4, .string t5, .string t6] 36)) 9 #[.string t0, .string t4, .string t5, .string t6]; simp only [World.size_alloc] at h; exact h
  refine (HSH.out _ (w.heap.size + 1 + 1) 9 hWs).mono ?_
  rintro e wv ⟨rfl, rfl⟩
  go_wp2_with fail
  have hWi : Whole ((((w.alloc (.cells #[.string t0, .int .i64 x1, .int .i64 x2, .int .i64 x3, .string t4, .string t5, .string t6] 36)).alloc (.cells #[.string t0, .int .i64 x1, .int .i64 x2, .int .i64 x3, .string t4, .string t5, .string t6] 36)).alloc (.cells #[.string t0, .string t4, .string t5, .string t6] 9)).alloc (.cells #[.int .i64 x1, .int .i64 x2, .int .i64 x3] 3)) (w.heap.size + 1 + 1 + 1) 3 #[.int .i64 x1, .int .i64 x2, .int .i64 x3] := by have h := Whole.new (((w.alloc (.cells #[.string t0, .int .i64 x1, .int .i64 x2, .int .i64 x3, .string t4, .string t5, .string t6] 36)).alloc (.cells #[.string t0, .int .i64 x1, .int .i64 x2, .int .i64 x3, .string t4, .string t5, .string t6] 36)).alloc (.cells #[.string t0, .string t4, .string t5, .string t6] 9)) 3 #[.int .i64 x1, .int .i64 x2, .int .i64 x3]; simp only [World.size_alloc] at h; exact h
  refine (HWH.out _ (w.heap.size + 1 + 1 + 1) 3 hWi).mono ?_
  rintro e wv ⟨rfl, rfl⟩
  go_wp2_with fail
  go_ret
  exact ⟨rfl, ((((Below.refl _ _).alloc (Nat.le_refl _) _).alloc (by simp) _).alloc (by simp; omega) _).alloc (by simp; omega) _⟩

set_option maxRecDepth 100000 in
set_option maxHeartbeats 2000000 in
theorem helE5 (w : World) (at_ nb cb : Nat) (t0 : ByteArray) (x1 : Int) (x2 : Int) (x3 : Int) (t4 : ByteArray) (t5 : ByteArray) (t6 : ByteArray) (AB : Option Addr) (h1 : t0.size ≤ 2147483647 ∧ t4.size ≤ 2147483647 ∧ t5.size ≤ 2147483647 ∧ t6.size ≤ 2147483647) (h2 : ¬ 2147483647 < nb) (h3 : t0.size ≤ 100 ∧ t4.size ≤ 100 ∧ t5.size ≤ 100 ∧ t6.size ≤ 100) (h4 : (0 ≤ x1 ∧ x1 < 2147483648) ∧ (0 ≤ x2 ∧ x2 < 2147483648) ∧ (0 ≤ x3 ∧ x3 < 2147483648)) (h5 : 9 < nb) :
    Calls Try.prog 4 #[.agg #[.string t0, .int .i64 x1, .int .i64 x2, .int .i64 x3, .string t4, .string t5, .string t6], .slice AB nb cb, .int .u16 at_] w fun e w' => e = .returned (.bool true) ∧ Below w.heap.size w w' := by
  have HZ := Lib.hid (fun w => zz14 w t0 x1 x2 x3 t4 t5 t6)
  have hz : decide (t0.size ≤ 2147483647 ∧ t4.size ≤ 2147483647 ∧ t5.size ≤ 2147483647 ∧ t6.size ≤ 2147483647) = true := decide_eq_true h1
  rw [hz] at HZ
  clear hz h1
  have g2147483647 : ¬ (2147483647 : Int) < (nb : Int) := by omega
  have g9 : (9 : Int) < (nb : Int) := by omega
  clear h2 h5
  have HSH := Lib.hid (fun w g t hW => pkShort4 w g t t0 t4 t5 t6 hW)
  have hs : decide (t0.size ≤ 100 ∧ t4.size ≤ 100 ∧ t5.size ≤ 100 ∧ t6.size ≤ 100) = true := decide_eq_true h3
  rw [hs] at HSH
  clear hs h3
  have HWH := Lib.hid (fun w g t hW => pkWhole3 w g t x1 x2 x3 hW)
  have hw : decide ((0 ≤ x1 ∧ x1 < 2147483648) ∧ (0 ≤ x2 ∧ x2 < 2147483648) ∧ (0 ≤ x3 ∧ x3 < 2147483648)) = true := decide_eq_true h4
  rw [hw] at HWH
  clear hw h4
  go_enter Try.func4, Try.ntmps4
  go_wp2_with fail
  refine (HZ.out _).mono ?_
  rintro e wv ⟨rfl, rfl⟩
  go_wp2_with fail
  have hWs : Whole (((w.alloc (.cells #[.string t0, .int .i64 x1, .int .i64 x2, .int .i64 x3, .string t4, .string t5, .string t6] 36)).alloc (.cells #[.string t0, .int .i64 x1, .int .i64 x2, .int .i64 x3, .string t4, .string t5, .string t6] 36)).alloc (.cells #[.string t0, .string t4, .string t5, .string t6] 9)) (w.heap.size + 1 + 1) 9 #[.string t0, .string t4, .string t5, .string t6] := by have h := Whole.new ((w.alloc (.cells #[.string t0, .int .i64 x1, .int .i64 x2, .int .i64 x3, .string t4, .string t5, .string t6] 36)).alloc (.cells #[.string t0, .int .i64 x1, .int .i64 x2, .int .i64 x3, .string t4, .string t5, .string t6] 36)) 9 #[.string t0, .string t4, .string t5, .string t6]; simp only [World.size_alloc] at h; exact h
  refine (HSH.out _ (w.heap.size + 1 + 1) 9 hWs).mono ?_
  rintro e wv ⟨rfl, rfl⟩
  go_wp2_with fail
  have hWi : Whole ((((w.alloc (.cells #[.string t0, .int .i64 x1, .int .i64 x2, .int .i64 x3, .string t4, .string t5, .string t6] 36)).alloc (.cells #[.string t0, .int .i64 x1, .int .i64 x2, .int .i64 x3, .string t4, .string t5, .string t6] 36)).alloc (.cells #[.string t0, .string t4, .string t5, .string t6] 9)).alloc (.cells #[.int .i64 x1, .int .i64 x2, .int .i64 x3] 3)) (w.heap.size + 1 + 1 + 1) 3 #[.int .i64 x1, .int .i64 x2, .int .i64 x3] := by have h := Whole.new (((w.alloc (.cells #[.string t0, .int .i64 x1, .int .i64 x2, .int .i64 x3, .string t4, .string t5, .string t6] 36)).alloc (.cells #[.string t0, .int .i64 x1, .int .i64 x2, .int .i64 x3, .string t4, .string t5, .string t6] 36)).alloc (.cells #[.string t0, .string t4, .string t5, .string t6] 9)) 3 #[.int .i64 x1, .int .i64 x2, .int .i64 x3]; simp only [World.size_alloc] at h; exact h
  refine (HWH.out _ (w.heap.size + 1 + 1 + 1) 3 hWi).mono ?_
  rintro e wv ⟨rfl, rfl⟩
  go_wp2_with fail
  go_ret
  exact ⟨rfl, ((((Below.refl _ _).alloc (Nat.le_refl _) _).alloc (by simp) _).alloc (by simp; omega) _).alloc (by simp; omega) _⟩

set_option maxRecDepth 100000 in
set_option maxHeartbeats 8000000 in
theorem helYes (w : World) (at_ nb cb : Nat) (hat : at_ < 65536) (t0 : ByteArray) (x1 : Nat) (x2 : Nat) (x3 : Nat) (t4 : ByteArray) (t5 : ByteArray) (t6 : ByteArray) (AB : Option Addr) (h1 : t0.size ≤ 2147483647 ∧ t4.size ≤ 2147483647 ∧ t5.size ≤ 2147483647 ∧ t6.size ≤ 2147483647) (h3 : t0.size ≤ 100 ∧ t4.size ≤ 100 ∧ t5.size ≤ 100 ∧ t6.size ≤ 100) (h4 : (0 ≤ (x1 : Int) ∧ (x1 : Int) < 2147483648) ∧ (0 ≤ (x2 : Int) ∧ (x2 : Int) < 2147483648) ∧ (0 ≤ (x3 : Int) ∧ (x3 : Int) < 2147483648)) (lb : List UInt8) (hlb : lb.length = nb) (hRB : Rd w 1 AB nb (Lib.byteCells lb)) (hn9 : nb ≤ 9) :
    Calls Try.prog 4 #[.agg #[.string t0, .int .i64 x1, .int .i64 x2, .int .i64 x3, .string t4, .string t5, .string t6], .slice AB nb cb, .int .u16 at_] w fun e w' => e = .returned (.bool true) ∧ Below w.heap.size w w' := by
  obtain ⟨i0, hi0, hz0, hz1, hz2⟩ := info_parts infoU8
  have e0 : t0.size ≤ 1000 := by omega
  have e1 : x1 < 2147483648 := by omega
  have e2 : x2 < 2147483648 := by omega
  have e3 : x3 < 2147483648 := by omega
  have e4 : t4.size ≤ 1000 := by omega
  have e5 : t5.size ≤ 1000 := by omega
  have e6 : t6.size ≤ 1000 := by omega
  have hpe := fun w => helloEq w t0 (x1 : Int) (x2 : Int) (x3 : Int) t4 t5 t6
  have HZ := Lib.hid (fun w => zz14 w t0 (x1 : Int) (x2 : Int) (x3 : Int) t4 t5 t6)
  have hz : decide (t0.size ≤ 2147483647 ∧ t4.size ≤ 2147483647 ∧ t5.size ≤ 2147483647 ∧ t6.size ≤ 2147483647) = true := decide_eq_true h1
  rw [hz] at HZ
  clear hz h1
  have HSH := Lib.hid (fun w g t hW => pkShort4 w g t t0 t4 t5 t6 hW)
  have hs : decide (t0.size ≤ 100 ∧ t4.size ≤ 100 ∧ t5.size ≤ 100 ∧ t6.size ≤ 100) = true := decide_eq_true h3
  rw [hs] at HSH
  clear hs h3
  have HWH := Lib.hid (fun w g t hW => pkWhole3 w g t x1 x2 x3 hW)
  have hw : decide ((0 ≤ (x1 : Int) ∧ (x1 : Int) < 2147483648) ∧ (0 ≤ (x2 : Int) ∧ (x2 : Int) < 2147483648) ∧ (0 ≤ (x3 : Int) ∧ (x3 : Int) < 2147483648)) = true := decide_eq_true h4
  rw [hw] at HWH
  clear hw h4
  have HP := Lib.hid (fun w => helloPut w t0 x1 x2 x3 t4 t5 t6 e0 e1 e2 e3 e4 e5 e6)
  have HSP := Lib.hid (fun w => helloSpec w t0 x1 x2 x3 t4 t5 t6 e0 e1 e2 e3 e4 e5 e6)
  have HG := Lib.hid (fun w A c => helloGet_ok w A c t0 x1 x2 x3 t4 t5 t6 e0 e1 e2 e3 e4 e5 e6 lb _ rfl)
  have HX := Lib.hid (fun w A c l hl mm hmm => helloGet_cut w A c t0 x1 x2 x3 t4 t5 t6 e0 e1 e2 e3 e4 e5 e6 l hl mm hmm)
  have hbig : (strB t0 ++ (Lib.uvarint x1 ++ (Lib.uvarint x2 ++ (Lib.uvarint x3 ++ (strB t4 ++ (strB t5 ++ (strB t6))))))).length ≤ 6000 := by
    have a0 := Lib.uvarint_length64 (x := t0.size) (by omega)
    have a1 := Lib.uvarint_length64 (x := x1) (by omega)
    have a2 := Lib.uvarint_length64 (x := x2) (by omega)
    have a3 := Lib.uvarint_length64 (x := x3) (by omega)
    have a4 := Lib.uvarint_length64 (x := t4.size) (by omega)
    have a5 := Lib.uvarint_length64 (x := t5.size) (by omega)
    have a6 := Lib.uvarint_length64 (x := t6.size) (by omega)
    simp only [strB, List.length_append, sl_length]
    omega
  have g1 : ¬ (2147483647 : Int) < (nb : Int) := by omega
  have g2 : ¬ (9 : Int) < (nb : Int) := by omega
  clear e0 e1 e2 e3 e4 e5 e6
  generalize strB t0 ++ (Lib.uvarint x1 ++ (Lib.uvarint x2 ++ (Lib.uvarint x3 ++ (strB t4 ++ (strB t5 ++ (strB t6)))))) = dd at *
  have hdd : ∃ d : List UInt8, d = 0 :: dd := ⟨_, rfl⟩
  obtain ⟨d, hd⟩ := hdd
  have hdl : d.length = dd.length + 1 := by rw [hd]; rfl
  have hall : (0 :: (dd ++ lb) : List UInt8) = d ++ lb := by rw [hd]; rfl
  rw [hall] at HG
  rw [← hd] at HP
  clear hall
  have HX := HX.out
  have HX := Lib.hid (fun w A c mm hmm => HX w A c d hd mm hmm)
  generalize hnd : d.length = n at *
  generalize hmd : dd.length = md at *
  have HD := Lib.hid hd
  have HND := Lib.hid hnd
  have HMD := Lib.hid hmd
  have HLB := Lib.hid hlb
  have HL1 := Lib.hid (show (d ++ lb).length = n + nb by rw [List.length_append, hnd, hlb])
  have hd1 : n ≤ 6001 := by omega
  have hd2 : 0 < n := by omega
  have hne2 : ¬ ((n : Int) = 0) := by omega
  clear hd hnd hmd hlb hdl
  have hW0 := Whole.new w 36 #[.string t0, .int .i64 x1, .int .i64 x2, .int .i64 x3, .string t4, .string t5, .string t6]
  have KB := (((((Keeps.refl (fun _ => False) w).alloc (.cells #[.string t0, .int .i64 x1, .int .i64 x2, .int .i64 x3, .string t4, .string t5, .string t6] 36)).alloc (.cells #[.string t0, .int .i64 x1, .int .i64 x2, .int .i64 x3, .string t4, .string t5, .string t6] 36)).alloc (.cells #[.string t0, .string t4, .string t5, .string t6] 9)).alloc (.cells #[.int .i64 x1, .int .i64 x2, .int .i64 x3] 3))
  have hWB := ((hW0.alloc (.cells #[.string t0, .int .i64 x1, .int .i64 x2, .int .i64 x3, .string t4, .string t5, .string t6] 36)).alloc (.cells #[.string t0, .string t4, .string t5, .string t6] 9)).alloc (.cells #[.int .i64 x1, .int .i64 x2, .int .i64 x3] 3)
  go_enter Try.func4, Try.ntmps4
  go_wp2_with fail
  refine (HZ.out _).mono ?_
  rintro e wv ⟨rfl, rfl⟩
  go_wp2_with fail
  have hWs : Whole (((w.alloc (.cells #[.string t0, .int .i64 x1, .int .i64 x2, .int .i64 x3, .string t4, .string t5, .string t6] 36)).alloc (.cells #[.string t0, .int .i64 x1, .int .i64 x2, .int .i64 x3, .string t4, .string t5, .string t6] 36)).alloc (.cells #[.string t0, .string t4, .string t5, .string t6] 9)) (w.heap.size + 1 + 1) 9 #[.string t0, .string t4, .string t5, .string t6] := by have h := Whole.new ((w.alloc (.cells #[.string t0, .int .i64 x1, .int .i64 x2, .int .i64 x3, .string t4, .string t5, .string t6] 36)).alloc (.cells #[.string t0, .int .i64 x1, .int .i64 x2, .int .i64 x3, .string t4, .string t5, .string t6] 36)) 9 #[.string t0, .string t4, .string t5, .string t6]; simp only [World.size_alloc] at h; exact h
  refine (HSH.out _ (w.heap.size + 1 + 1) 9 hWs).mono ?_
  rintro e wv ⟨rfl, rfl⟩
  go_wp2_with fail
  have hWi : Whole ((((w.alloc (.cells #[.string t0, .int .i64 x1, .int .i64 x2, .int .i64 x3, .string t4, .string t5, .string t6] 36)).alloc (.cells #[.string t0, .int .i64 x1, .int .i64 x2, .int .i64 x3, .string t4, .string t5, .string t6] 36)).alloc (.cells #[.string t0, .string t4, .string t5, .string t6] 9)).alloc (.cells #[.int .i64 x1, .int .i64 x2, .int .i64 x3] 3)) (w.heap.size + 1 + 1 + 1) 3 #[.int .i64 x1, .int .i64 x2, .int .i64 x3] := by have h := Whole.new (((w.alloc (.cells #[.string t0, .int .i64 x1, .int .i64 x2, .int .i64 x3, .string t4, .string t5, .string t6] 36)).alloc (.cells #[.string t0, .int .i64 x1, .int .i64 x2, .int .i64 x3, .string t4, .string t5, .string t6] 36)).alloc (.cells #[.string t0, .string t4, .string t5, .string t6] 9)) 3 #[.int .i64 x1, .int .i64 x2, .int .i64 x3]; simp only [World.size_alloc] at h; exact h
  refine (HWH.out _ (w.heap.size + 1 + 1 + 1) 3 hWi).mono ?_
  rintro e wv ⟨rfl, rfl⟩
  go_wp2_with fail
  refine (HP.out _).mono ?_
  rintro e w1 ⟨A1, c1, rfl, hown1, hK1, hA1⟩
  have hK01 := KB.trans hK1 (fun _ _ h => h)
  have hW1 := hWB.keeps hK1 (fun h => h)
  have wl1 := hW1.lt
  have b0 : w1.cell? ⟨w.heap.size, 0, none⟩ = some (.string t0) := hW1.cell 0
  have b1 : w1.cell? ⟨w.heap.size, 1, none⟩ = some (.int .i64 x1) := hW1.cell 1
  have b2 : w1.cell? ⟨w.heap.size, 2, none⟩ = some (.int .i64 x2) := hW1.cell 2
  have b3 : w1.cell? ⟨w.heap.size, 3, none⟩ = some (.int .i64 x3) := hW1.cell 3
  have b4 : w1.cell? ⟨w.heap.size, 4, none⟩ = some (.string t4) := hW1.cell 4
  have b5 : w1.cell? ⟨w.heap.size, 5, none⟩ = some (.string t5) := hW1.cell 5
  have b6 : w1.cell? ⟨w.heap.size, 6, none⟩ = some (.string t6) := hW1.cell 6
  go_wp2_with fail
  refine (HSP.out _).mono ?_
  rintro e w2 ⟨A2, c2, rfl, hown2, hK2, hA2⟩
  have hK02 := hK01.trans hK2 (fun _ _ h => h)
  have hown12 := own_keeps hown1 hK2 (fun _ _ h => h)
  go_wp2_with fail
  refine (pkEnds_with w2 A1 A2 n c1 md c2 0 0 d dd rfl HD.out HND.out HMD.out (Rd.own hown12) (Rd.own hown2) (by omega)).mono ?_
  rintro e w3 ⟨rfl, hK3⟩
  have hK03 := hK02.trans hK3 (fun _ _ h => h)
  have hown13 := own_keeps hown12 hK3 (fun _ _ h => h)
  have hcl := cloneB w3 A1 c1 d (by rw [HND.out]; exact Rd.own hown13) (by rw [HND.out]; omega)
  rw [HND.out] at hcl
  have HCL := Lib.hid hcl
  clear hcl b0 b1 b2 b3 b4 b5 b6
  go_wp2_with fail
  refine HCL.out.mono ?_
  clear HCL
  rintro e w4 ⟨A4, c4, rfl, hown4, hK4, hA4⟩
  have hK04 := hK03.trans hK4 (fun _ _ h => h)
  have hRB4 := hRB.keeps hK04 (fun _ _ h => h)
  go_wp2_with (first
    | (at_builtin
       refine wpList_append_rd _ rfl (.tmp 63) (.tmp 64) _ rfl w3.heap.size 5 i0 _ 1 1 Try.underlying22 hi0 hz0 hz1 hz2 rfl Nat.one_pos A4 c4 n _ rfl hown4 AB nb cb (Lib.byteCells lb) rfl hRB4 (byteCells_one _) (by simp only [maxLen]; omega) (by omega) hK4.size ?_
       intro A5 c5 w5 hown5 hg5 hat5
       have hK05 := hK04.grown hg5 (fun k hk => .inr (by have := hA4 k hk; have := hK03.size; omega))
       have hK35 := hK4.grown hg5 (fun k hk => .inr (by have := hA4 k hk; omega))
       have hget := HG.out w5 A5 c5
       rw [← Lib.byteCells_append] at hown5
       rw [HL1.out, HLB.out] at hget)
    | (go_at_call 17; refine (hget (Rd.own hown5) (own_cap hown5) (fun i hi => (hown5.lt i (by rw [ownBlock_slice]; exact hi)).2)).mono ?_; clear hget))
  rintro e w6 ⟨rfl, hK6⟩
  have hK06 := hK05.trans hK6 (fun _ _ h => h)
  have hK36 := hK35.trans hK6 (fun _ _ h => h)
  have hown16 := own_keeps hown13 hK36 (fun _ _ h => h)
  have hmn : at_ % n < n := Nat.mod_lt _ hd2
  have HCUT := Lib.hid (fun w => pkCut w A1 c1 n at_ hd2 (own_cap hown1) hat)
  have hown17 := own_keeps hown16 ((Keeps.refl (fun _ => False) w6).alloc (.cells #[.string t0, .int .i64 x1, .int .i64 x2, .int .i64 x3, .string t4, .string t5, .string t6] 36)) (fun _ _ h => h)
  have hK07 := hK06.alloc (.cells #[.string t0, .int .i64 x1, .int .i64 x2, .int .i64 x3, .string t4, .string t5, .string t6] 36)
  have hW17 := ((((hW1.keeps hK2 (fun h => h)).keeps hK3 (fun h => h)).keeps hK36 (fun h => h))).alloc (.cells #[.string t0, .int .i64 x1, .int .i64 x2, .int .i64 x3, .string t4, .string t5, .string t6] 36)
  have hW7 := Whole.new w6 36 #[.string t0, .int .i64 x1, .int .i64 x2, .int .i64 x3, .string t4, .string t5, .string t6]
  go_wp2_with fail
  refine (HCUT.out _).mono ?_
  rintro e w7 ⟨rfl, rfl⟩
  have hx := HX.out (w6.alloc (.cells #[.string t0, .int .i64 x1, .int .i64 x2, .int .i64 x3, .string t4, .string t5, .string t6] 36)) A1 c1 (at_ % n) hmn
  have hx := Lib.hid (hx (by rw [← byteCells_take]; exact (Rd.own hown17).first (by omega)) (by have := own_cap hown1; omega) (fun i hi => (hown17.lt i (by rw [ownBlock_slice]; exact hi)).2))
  generalize at_ % n = mm at *
  go_wp2_with fail
  refine hx.out.mono ?_
  rintro e w8 ⟨rfl, hK8⟩
  have hK08 := hK07.trans hK8 (fun _ _ h => h)
  have hWx := hW17.keeps hK8 (fun h => h)
  have hWy := hW7.keeps hK8 (fun h => h)
  have wl8 := hWx.lt
  have wl9 := hWy.lt
  have b0 : w8.cell? ⟨w.heap.size, 0, none⟩ = some (.string t0) := hWx.cell 0
  have b1 : w8.cell? ⟨w.heap.size, 1, none⟩ = some (.int .i64 x1) := hWx.cell 1
  have b2 : w8.cell? ⟨w.heap.size, 2, none⟩ = some (.int .i64 x2) := hWx.cell 2
  have b3 : w8.cell? ⟨w.heap.size, 3, none⟩ = some (.int .i64 x3) := hWx.cell 3
  have b4 : w8.cell? ⟨w.heap.size, 4, none⟩ = some (.string t4) := hWx.cell 4
  have b5 : w8.cell? ⟨w.heap.size, 5, none⟩ = some (.string t5) := hWx.cell 5
  have b6 : w8.cell? ⟨w.heap.size, 6, none⟩ = some (.string t6) := hWx.cell 6
  have q0 : w8.cell? ⟨w6.heap.size, 0, none⟩ = some (.string t0) := hWy.cell 0
  have q1 : w8.cell? ⟨w6.heap.size, 1, none⟩ = some (.int .i64 x1) := hWy.cell 1
  have q2 : w8.cell? ⟨w6.heap.size, 2, none⟩ = some (.int .i64 x2) := hWy.cell 2
  have q3 : w8.cell? ⟨w6.heap.size, 3, none⟩ = some (.int .i64 x3) := hWy.cell 3
  have q4 : w8.cell? ⟨w6.heap.size, 4, none⟩ = some (.string t4) := hWy.cell 4
  have q5 : w8.cell? ⟨w6.heap.size, 5, none⟩ = some (.string t5) := hWy.cell 5
  have q6 : w8.cell? ⟨w6.heap.size, 6, none⟩ = some (.string t6) := hWy.cell 6
  go_wp2_with fail
  go_ret
  exact ⟨rfl, (hK08.alloc _).below (Nat.le_refl _) (fun _ h => h.elim)⟩

theorem helWalk (w : World) (at_ nb cb : Nat) (hat : at_ < 65536) (t0 : ByteArray) (x1 : Int) (x2 : Int) (x3 : Int) (t4 : ByteArray) (t5 : ByteArray) (t6 : ByteArray) (AB : Option Addr) (lb : List UInt8) (hlb : lb.length = nb) (hRB : Rd w 1 AB nb (Lib.byteCells lb)) :
    Calls Try.prog 4 #[.agg #[.string t0, .int .i64 x1, .int .i64 x2, .int .i64 x3, .string t4, .string t5, .string t6], .slice AB nb cb, .int .u16 at_] w fun e w' => e = .returned (.bool true) ∧ Below w.heap.size w w' := by
  by_cases h1 : t0.size ≤ 2147483647 ∧ t4.size ≤ 2147483647 ∧ t5.size ≤ 2147483647 ∧ t6.size ≤ 2147483647
  · by_cases h2 : 2147483647 < nb
    · exact helE2 w at_ nb cb t0 x1 x2 x3 t4 t5 t6 AB h1 h2
    by_cases h3 : t0.size ≤ 100 ∧ t4.size ≤ 100 ∧ t5.size ≤ 100 ∧ t6.size ≤ 100
    · by_cases h4 : (0 ≤ x1 ∧ x1 < 2147483648) ∧ (0 ≤ x2 ∧ x2 < 2147483648) ∧ (0 ≤ x3 ∧ x3 < 2147483648)
      · by_cases h5 : 9 < nb
        · exact helE5 w at_ nb cb t0 x1 x2 x3 t4 t5 t6 AB h1 h2 h3 h4 h5
        obtain ⟨y1, rfl⟩ := Int.eq_ofNat_of_zero_le h4.1.1
        obtain ⟨y2, rfl⟩ := Int.eq_ofNat_of_zero_le h4.2.1.1
        obtain ⟨y3, rfl⟩ := Int.eq_ofNat_of_zero_le h4.2.2.1
        exact helYes w at_ nb cb hat t0 y1 y2 y3 t4 t5 t6 AB h1 h3 h4 lb hlb hRB (by omega)
      · exact helE4 w at_ nb cb t0 x1 x2 x3 t4 t5 t6 AB h1 h2 h3 h4
    · exact helE3 w at_ nb cb t0 x1 x2 x3 t4 t5 t6 AB h1 h2 h3
  · exact helE1 w at_ nb cb t0 x1 x2 x3 t4 t5 t6 AB h1
end Go.Proofs.Ytgnlfbekkddmiaa
