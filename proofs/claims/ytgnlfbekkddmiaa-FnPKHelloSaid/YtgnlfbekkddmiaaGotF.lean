/- got, a code ahead, the function that is handed in being a method bound to its receiver. Conditions: that function's own contract. -/
import Derived.Test.YtgnlfbekkddmiaaGotC
import Derived.Test.YtgnlfbekkddmiaaRd4
namespace Go.Proofs.Ytgnlfbekkddmiaa
open Go.RowKit

set_option maxRecDepth 100000 in
set_option maxHeartbeats 400000 in
theorem got_okF (w : World) (A : Option Addr) (c : Nat) (kb : UInt8) (x : Int) (hx : (kb.toNat : Int) = x) (d d' l : List UInt8) (hd : d = kb :: d') (hR : Rd w 1 A d.length (Lib.byteCells d)) (hc : d.length ≤ c) (hA : ∀ i, ob A = some i → i < w.heap.size) (f : FuncId) (first : Array Value)
    (hf : ∀ args w, (callFunc f args).run Try.prog w = .ok (.enter f args) w) (T : Nat → Prop) (hT : ¬ T w.heap.size) (Q : World → Prop)
    (hcall : ∀ w1 R, RdrOn w1 (w.heap.size + 1) (w.heap.size + 1 + 1) (w.heap.size + 1) (ob A) R d' → Keeps (fun _ => False) w w1 →
      Calls Try.prog f (first.push (.pointer (some ⟨w.heap.size + 1 + 1, 0, none⟩))) w1 fun e w2 => e = .returned .nilIface ∧ (∃ R, RdrOn w2 (w.heap.size + 1) (w.heap.size + 1 + 1) (w.heap.size + 1) (ob A) R l) ∧ Keeps (RdrX T (w.heap.size + 1 + 1) (w.heap.size + 1) R) w1 w2 ∧ Q w2) :
    Calls Try.prog 22 #[.slice A d.length c, .int .i64 x, .func (.func f) first #[]] w fun e w' =>
      ∃ w2, e = .returned (.tuple #[.int .i64 l.length, .bool true]) ∧ Q w2 ∧ Keeps T w w2 ∧ Keeps (fun k => k = w.heap.size) w2 w' := by
  have HC := Lib.hid hcall
  clear hcall
  have HX := Lib.hid hx
  have hx0 : 0 ≤ x := by omega
  have hx1 : x ≤ 255 := by have := kb.toNat_lt; omega
  have HD := Lib.hid hd
  clear hx hd
  go_enter_defers Try.func22, Try.ntmps22
  go_wp2_with fail
  refine (newReader _ A c d (by exact hR.alloc _) hc (by simp; intro i hi; have := hA i hi; omega)).mono ?_
  rintro e w1 ⟨rfl, hR1, hK1, hs1⟩
  rw [World.size_alloc] at hR1 hs1
  have hK0 : Keeps (fun _ => False) w w1 := ((Keeps.refl _ w).alloc _).trans hK1 (fun _ _ h => h)
  rw [World.size_alloc]
  rw [HD.out] at hR1
  go_wp2_with fail
  refine (uint8_ok w1 _ _ _ (ob A) none kb d' hR1).mono ?_
  rintro e w1' ⟨he, hG⟩
  rw [HX.out] at he
  subst he
  obtain ⟨R1, hR1', hS1⟩ := hG.on
  have hK0' : Keeps (fun _ => False) w w1' := hK0.trans hG.keeps (by
    rintro i hi (h | h | h)
    · omega
    · omega
    · cases h)
  have hfr : ∀ i, R1 = some i → w1.heap.size ≤ i := by
    rcases hS1 with rfl | h
    · intro i hi; cases hi
    · exact h
  clear hS1
  go_wp2_with fail
  refine (HC.out w1' R1 hR1' hK0').mono ?_
  rintro e w2 ⟨rfl, ⟨R, hR2⟩, hK2, hQ⟩
  obtain ⟨A2, c2, C2, n2, k2, q2, hA2, _, _⟩ := hR2
  have hw0 := (((Whole.new w 4 #[.bool false]).keeps hK1 (fun h => h)).keeps hG.keeps (by
    rintro (h | h | h)
    · omega
    · omega
    · cases h)).keeps hK2 (by
    rintro (h | h | h | h)
    · exact hT h
    · omega
    · omega
    · have := hfr _ h; omega)
  have hb : w2.cell? ⟨w.heap.size, 0, none⟩ = some (.bool false) := hw0.cell 0
  have hfz : w2.frozen? ⟨w.heap.size, 0, none⟩ = false := hw0.frozen 0
  have hrd : w2.cell? ⟨w.heap.size + 1 + 1, 0, none⟩ = some (.slice A2 l.length c2) := hA2.rdr.cell 0
  clear hw0
  go_wp2
  refine leaves_cons (f := 34) (args := #[.pointer (some ⟨w.heap.size, 0, none⟩)]) (by simp) (by simp [go_sem]) ?_
  refine (caught_idle ⟨w.heap.size, 0, none⟩ _).mono ?_
  rintro e u' w'' ⟨rfl, rfl, rfl⟩
  have hb' : (w2.setCell ⟨w.heap.size, 0, none⟩ (.bool true)).cell? ⟨w.heap.size, 0, none⟩ = some (.bool true) := by
    exact World.cell?_setCell_same _ _ _ hb
  simp [Leaves, settle, results, Try.results22, go_sem, hb']
  exact ⟨w2, hQ, (hK0'.mono (S' := T) (fun _ _ h => h.elim)).trans hK2 (by
    rintro i hi (h | h | h | h)
    · exact h
    · omega
    · omega
    · have := hfr _ h; omega), (Keeps.refl (fun k => k = w.heap.size) w2).setCell (.inl rfl) _⟩


set_option maxRecDepth 100000 in
set_option maxHeartbeats 400000 in
theorem got_errF (w : World) (A : Option Addr) (c : Nat) (kb : UInt8) (x : Int) (hx : (kb.toNat : Int) = x) (d d' : List UInt8) (hd : d = kb :: d') (hR : Rd w 1 A d.length (Lib.byteCells d)) (hc : d.length ≤ c) (hA : ∀ i, ob A = some i → i < w.heap.size) (f : FuncId) (first : Array Value)
    (hf : ∀ args w, (callFunc f args).run Try.prog w = .ok (.enter f args) w) (T : Nat → Prop) (hT : ¬ T w.heap.size) (Q : World → Prop)
    (hcall : ∀ w1 R, RdrOn w1 (w.heap.size + 1) (w.heap.size + 1 + 1) (w.heap.size + 1) (ob A) R d' → Keeps (fun _ => False) w w1 →
      Calls Try.prog f (first.push (.pointer (some ⟨w.heap.size + 1 + 1, 0, none⟩))) w1 fun e w2 => (∃ v, e = .returned v ∧ IsErr v) ∧ Keeps (RdrX T (w.heap.size + 1 + 1) (w.heap.size + 1) R) w1 w2 ∧ Q w2) :
    Calls Try.prog 22 #[.slice A d.length c, .int .i64 x, .func (.func f) first #[]] w fun e w' =>
      ∃ w2, e = .returned (.tuple #[.int .i64 0, .bool false]) ∧ Q w2 ∧ Keeps T w w2 ∧ Keeps (fun k => k = w.heap.size) w2 w' := by
  have HC := Lib.hid hcall
  clear hcall
  have HX := Lib.hid hx
  have hx0 : 0 ≤ x := by omega
  have hx1 : x ≤ 255 := by have := kb.toNat_lt; omega
  have HD := Lib.hid hd
  clear hx hd
  go_enter_defers Try.func22, Try.ntmps22
  go_wp2_with fail
  refine (newReader _ A c d (by exact hR.alloc _) hc (by simp; intro i hi; have := hA i hi; omega)).mono ?_
  rintro e w1 ⟨rfl, hR1, hK1, hs1⟩
  rw [World.size_alloc] at hR1 hs1
  have hK0 : Keeps (fun _ => False) w w1 := ((Keeps.refl _ w).alloc _).trans hK1 (fun _ _ h => h)
  rw [World.size_alloc]
  rw [HD.out] at hR1
  go_wp2_with fail
  refine (uint8_ok w1 _ _ _ (ob A) none kb d' hR1).mono ?_
  rintro e w1' ⟨he, hG⟩
  rw [HX.out] at he
  subst he
  obtain ⟨R1, hR1', hS1⟩ := hG.on
  have hK0' : Keeps (fun _ => False) w w1' := hK0.trans hG.keeps (by
    rintro i hi (h | h | h)
    · omega
    · omega
    · cases h)
  have hfr : ∀ i, R1 = some i → w1.heap.size ≤ i := by
    rcases hS1 with rfl | h
    · intro i hi; cases hi
    · exact h
  clear hS1
  go_wp2_with fail
  refine (HC.out w1' R1 hR1' hK0').mono ?_
  rintro e w2 ⟨⟨v, rfl, ⟨a, rfl⟩⟩, hK2, hQ⟩
  have hw0 := (((Whole.new w 4 #[.bool false]).keeps hK1 (fun h => h)).keeps hG.keeps (by
    rintro (h | h | h)
    · omega
    · omega
    · cases h)).keeps hK2 (by
    rintro (h | h | h | h)
    · exact hT h
    · omega
    · omega
    · have := hfr _ h; omega)
  have hb : w2.cell? ⟨w.heap.size, 0, none⟩ = some (.bool false) := hw0.cell 0
  have hfz : w2.frozen? ⟨w.heap.size, 0, none⟩ = false := hw0.frozen 0
  clear hw0
  go_wp2
  refine leaves_cons (f := 34) (args := #[.pointer (some ⟨w.heap.size, 0, none⟩)]) (by simp) (by simp [go_sem]) ?_
  refine (caught_idle ⟨w.heap.size, 0, none⟩ _).mono ?_
  rintro e u' w'' ⟨rfl, rfl, rfl⟩
  have hb' : (w2.setCell ⟨w.heap.size, 0, none⟩ (.bool false)).cell? ⟨w.heap.size, 0, none⟩ = some (.bool false) := by
    exact World.cell?_setCell_same _ _ _ hb
  simp [Leaves, settle, results, Try.results22, go_sem, hb']
  exact ⟨w2, hQ, (hK0'.mono (S' := T) (fun _ _ h => h.elim)).trans hK2 (by
    rintro i hi (h | h | h | h)
    · exact h
    · omega
    · omega
    · have := hfr _ h; omega), (Keeps.refl (fun k => k = w.heap.size) w2).setCell (.inl rfl) _⟩


set_option maxRecDepth 100000 in
set_option maxHeartbeats 400000 in
theorem got_noneF (w : World) (A : Option Addr) (c : Nat) (x : Int) (hx0 : 0 ≤ x) (hA : ∀ i, ob A = some i → i < w.heap.size) (f : FuncId) (first : Array Value) :
    Calls Try.prog 22 #[.slice A 0 c, .int .i64 x, .func (.func f) first #[]] w fun e w' =>
      e = .returned (.tuple #[.int .i64 0, .bool false]) ∧ Keeps (fun _ => False) w w' := by
  have hR : Rd w 1 A ([] : List UInt8).length (Lib.byteCells []) := ⟨by simp [Lib.byteCells], fun h => absurd h (by simp)⟩
  go_enter_defers Try.func22, Try.ntmps22
  go_wp2_with fail
  refine (newReader _ A c [] (by exact hR.alloc _) (Nat.zero_le _) (by simp; intro i hi; have := hA i hi; omega)).mono ?_
  rintro e w1 ⟨rfl, hR1, hK1, hs1⟩
  rw [World.size_alloc] at hR1 hs1
  have hK0 : Keeps (fun _ => False) w w1 := ((Keeps.refl _ w).alloc _).trans hK1 (fun _ _ h => h)
  rw [World.size_alloc]
  go_wp2_with fail
  refine (uint8_err w1 _ _ _ (ob A) none [] hR1 (by simp)).mono ?_
  rintro e w2 ⟨v, rfl, ⟨a, rfl⟩, hG⟩
  have hw0 := (((Whole.new w 4 #[.bool false]).keeps hK1 (fun h => h)).keeps hG.keeps (by
    rintro (h | h | h)
    · omega
    · omega
    · cases h))
  have hb : w2.cell? ⟨w.heap.size, 0, none⟩ = some (.bool false) := hw0.cell 0
  have hfz : w2.frozen? ⟨w.heap.size, 0, none⟩ = false := hw0.frozen 0
  have hK2 : Keeps (fun _ => False) w w2 := hK0.trans hG.keeps (by
    rintro i hi (h | h | h)
    · omega
    · omega
    · cases h)
  clear hw0
  go_wp2
  refine leaves_cons (f := 34) (args := #[.pointer (some ⟨w.heap.size, 0, none⟩)]) (by simp) (by simp [go_sem]) ?_
  refine (caught_idle ⟨w.heap.size, 0, none⟩ _).mono ?_
  rintro e u' w'' ⟨rfl, rfl, rfl⟩
  have hb' : (w2.setCell ⟨w.heap.size, 0, none⟩ (.bool false)).cell? ⟨w.heap.size, 0, none⟩ = some (.bool false) := by
    exact World.cell?_setCell_same _ _ _ hb
  simp [Leaves, settle, results, Try.results22, go_sem, hb']
  exact hK2.setCell (p := ⟨w.heap.size, 0, none⟩) (.inr (Nat.le_refl _)) _
end Go.Proofs.Ytgnlfbekkddmiaa
