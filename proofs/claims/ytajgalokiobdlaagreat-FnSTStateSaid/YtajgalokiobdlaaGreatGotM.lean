/- got: a message is read by a method of an interface's value; how many bytes are left. Conditions: that method's own contract. -/
import Derived.Test.YtajgalokiobdlaaGreatRd2
import Derived.Defers
import Derived.Recover
namespace Go.Proofs.YtajgalokiobdlaaGreat
open Go.RowKit

theorem caught_idleM (p : Addr) (w : World) :
    CallsD Tryz.prog 31 #[.pointer (some p)] .returning w fun e u' w' => e = .returned (.tuple #[]) ∧ u' = .returning ∧ w = w' := by
  refine callsD_of_wpS Tryz.func31 rfl fun c₀ cs hu => ?_
  apply wpS_seq
  apply wpS_region
  simp [wpOpsS, go_sem, recoverD, hu, Tryz.ntmps31, Exit.thenS]
  refine wpS_cond (t := false) (by simp [Act.eval, Array.replicate]) ?_
  simp only [Bool.false_eq_true, if_false]
  refine wpS_of_wp (wp_skip ?_)
  cases c₀
  simp_all [bodyPostS, results, Tryz.results31]

theorem newReaderM (w : World) (A : Option Addr) (c : Nat) (d : List UInt8) (hR : Rd w 1 A d.length (Lib.byteCells d)) (hc : d.length ≤ c) (hA : ∀ i, ob A = some i → i < w.heap.size) :
    Calls Tryz.prog 32 #[.slice A d.length c] w fun e w' => e = .returned (.pointer (some ⟨w.heap.size + 1, 0, none⟩)) ∧
      RdrOn w' w.heap.size (w.heap.size + 1) w.heap.size (ob A) none d ∧ Keeps (fun _ => False) w w' ∧ w'.heap.size = w.heap.size + 2 := by
  go_enter Tryz.func32, Tryz.ntmps32
  go_wp2
  go_ret
  have h1 := Whole.new w 155 #[.slice none 0 0]
  have h2 := Whole.new (w.alloc (.cells #[.slice none 0 0] 155)) 160 #[.slice A d.length c, .pointer (some ⟨w.heap.size, 0, none⟩)]
  rw [World.size_alloc] at h2
  refine ⟨rfl, ⟨A, c, none, 0, 0, [], ⟨h2, h1.alloc _, ⟨by simp, .inl ⟨rfl, rfl⟩⟩, (hR.alloc _).alloc _, hc, by omega, by omega, fun i hi => ?_⟩, .inl rfl, rfl⟩, ((Keeps.refl _ _).alloc _).alloc _, by simp⟩
  have := hA i hi
  exact ⟨by omega, by omega, by simp [ob], by simp; omega⟩

set_option maxHeartbeats 400000 in
theorem got_okM (w : World) (A : Option Addr) (c : Nat) (d l : List UInt8) (hR : Rd w 1 A d.length (Lib.byteCells d)) (hc : d.length ≤ c) (hA : ∀ i, ob A = some i → i < w.heap.size) (nm : String) (T : TypeId) (v0 recv : Value) (f : FuncId) (hme : ∀ w : World, (method 333 T v0 nm).run Tryz.prog w = .ok (f, recv) w)
    (hf : ∀ args w, (callFunc f args).run Tryz.prog w = .ok (.enter f args) w) (S : Nat → Prop) (hS : ¬ S w.heap.size) (Q : World → Prop)
    (hcall : ∀ w1, RdrOn w1 (w.heap.size + 1) (w.heap.size + 1 + 1) (w.heap.size + 1) (ob A) none d → Keeps (fun _ => False) w w1 →
      Calls Tryz.prog f #[recv, .pointer (some ⟨w.heap.size + 1 + 1, 0, none⟩)] w1 fun e w2 => e = .returned .nilIface ∧ (∃ R, RdrOn w2 (w.heap.size + 1) (w.heap.size + 1 + 1) (w.heap.size + 1) (ob A) R l) ∧ Keeps S w1 w2 ∧ Q w2) :
    Calls Tryz.prog 10 #[.slice A d.length c, .int .i64 (-1), .func (.method nm) #[.iface T v0] #[]] w fun e w' =>
      ∃ w2, e = .returned (.tuple #[.int .i64 l.length, .bool true]) ∧ Q w2 ∧ Keeps S w w2 ∧ Keeps (fun k => k = w.heap.size) w2 w' := by
  have HC := Lib.hid hcall
  clear hcall
  go_enter_defers Tryz.func10, Tryz.ntmps10
  go_wp2_with fail
  refine (newReaderM _ A c d (by exact hR.alloc _) hc (by simp; intro i hi; have := hA i hi; omega)).mono ?_
  rintro e w1 ⟨rfl, hR1, hK1, hs1⟩
  rw [World.size_alloc] at hR1 hs1
  have hK0 : Keeps (fun _ => False) w w1 := ((Keeps.refl _ w).alloc _).trans hK1 (fun _ _ h => h)
  rw [World.size_alloc]
  go_wp2_with fail
  refine (HC.out w1 hR1 hK0).mono ?_
  rintro e w2 ⟨rfl, ⟨R, hR2⟩, hK2, hQ⟩
  obtain ⟨A2, c2, C2, n2, k2, q2, hA2, _, _⟩ := hR2
  have hw0 := ((Whole.new w 4 #[.bool false]).keeps hK1 (fun h => h)).keeps hK2 hS
  have hb : w2.cell? ⟨w.heap.size, 0, none⟩ = some (.bool false) := hw0.cell 0
  have hfz : w2.frozen? ⟨w.heap.size, 0, none⟩ = false := hw0.frozen 0
  have hrd : w2.cell? ⟨w.heap.size + 1 + 1, 0, none⟩ = some (.slice A2 l.length c2) := hA2.rdr.cell 0
  clear hw0
  go_wp2
  refine leaves_cons (f := 31) (args := #[.pointer (some ⟨w.heap.size, 0, none⟩)]) (by simp) (by simp [go_sem]) ?_
  refine (caught_idleM ⟨w.heap.size, 0, none⟩ _).mono ?_
  rintro e u' w'' ⟨rfl, rfl, rfl⟩
  have hb' : (w2.setCell ⟨w.heap.size, 0, none⟩ (.bool true)).cell? ⟨w.heap.size, 0, none⟩ = some (.bool true) := by
    exact World.cell?_setCell_same _ _ _ hb
  simp [Leaves, settle, results, Tryz.results10, go_sem, hb']
  exact ⟨w2, hQ, (hK0.mono (S' := S) (fun _ _ h => h.elim)).trans hK2 (fun _ _ h => h), (Keeps.refl (fun k => k = w.heap.size) w2).setCell (.inl rfl) _⟩

set_option maxHeartbeats 400000 in
theorem got_errM (w : World) (A : Option Addr) (c : Nat) (d : List UInt8) (hR : Rd w 1 A d.length (Lib.byteCells d)) (hc : d.length ≤ c) (hA : ∀ i, ob A = some i → i < w.heap.size) (nm : String) (T : TypeId) (v0 recv : Value) (f : FuncId) (hme : ∀ w : World, (method 333 T v0 nm).run Tryz.prog w = .ok (f, recv) w)
    (hf : ∀ args w, (callFunc f args).run Tryz.prog w = .ok (.enter f args) w) (S : Nat → Prop) (hS : ¬ S w.heap.size) (Q : World → Prop)
    (hcall : ∀ w1, RdrOn w1 (w.heap.size + 1) (w.heap.size + 1 + 1) (w.heap.size + 1) (ob A) none d → Keeps (fun _ => False) w w1 →
      Calls Tryz.prog f #[recv, .pointer (some ⟨w.heap.size + 1 + 1, 0, none⟩)] w1 fun e w2 => (∃ v, e = .returned v ∧ IsErr v) ∧ Keeps S w1 w2 ∧ Q w2) :
    Calls Tryz.prog 10 #[.slice A d.length c, .int .i64 (-1), .func (.method nm) #[.iface T v0] #[]] w fun e w' =>
      ∃ w2, e = .returned (.tuple #[.int .i64 0, .bool false]) ∧ Q w2 ∧ Keeps S w w2 ∧ Keeps (fun k => k = w.heap.size) w2 w' := by
  have HC := Lib.hid hcall
  clear hcall
  go_enter_defers Tryz.func10, Tryz.ntmps10
  go_wp2_with fail
  refine (newReaderM _ A c d (by exact hR.alloc _) hc (by simp; intro i hi; have := hA i hi; omega)).mono ?_
  rintro e w1 ⟨rfl, hR1, hK1, hs1⟩
  rw [World.size_alloc] at hR1 hs1
  have hK0 : Keeps (fun _ => False) w w1 := ((Keeps.refl _ w).alloc _).trans hK1 (fun _ _ h => h)
  rw [World.size_alloc]
  go_wp2_with fail
  refine (HC.out w1 hR1 hK0).mono ?_
  rintro e w2 ⟨⟨v, rfl, ⟨a, rfl⟩⟩, hK2, hQ⟩
  have hw0 := ((Whole.new w 4 #[.bool false]).keeps hK1 (fun h => h)).keeps hK2 hS
  have hb : w2.cell? ⟨w.heap.size, 0, none⟩ = some (.bool false) := hw0.cell 0
  have hfz : w2.frozen? ⟨w.heap.size, 0, none⟩ = false := hw0.frozen 0
  clear hw0
  go_wp2
  refine leaves_cons (f := 31) (args := #[.pointer (some ⟨w.heap.size, 0, none⟩)]) (by simp) (by simp [go_sem]) ?_
  refine (caught_idleM ⟨w.heap.size, 0, none⟩ _).mono ?_
  rintro e u' w'' ⟨rfl, rfl, rfl⟩
  have hb' : (w2.setCell ⟨w.heap.size, 0, none⟩ (.bool false)).cell? ⟨w.heap.size, 0, none⟩ = some (.bool false) := by
    exact World.cell?_setCell_same _ _ _ hb
  simp [Leaves, settle, results, Tryz.results10, go_sem, hb']
  exact ⟨w2, hQ, (hK0.mono (S' := S) (fun _ _ h => h.elim)).trans hK2 (fun _ _ h => h), (Keeps.refl (fun k => k = w.heap.size) w2).setCell (.inl rfl) _⟩
end Go.Proofs.YtajgalokiobdlaaGreat
