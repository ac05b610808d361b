/- PRPut of any values. Conditions: the Ops are from 1 to 19; strings are of at most 1000 bytes. -/
import Derived.Test.YthfoleapdmpdfaaDoorQc
import Derived.Test.YthfoleapdmpdfaaDoorEncC
namespace Go.Proofs.YthfoleapdmpdfaaDoor
open Go.RowKit Go.Lib
set_option linter.unusedVariables false
theorem own_lowP {w : World} {b b' : Nat} {e : TypeId} {size n : Nat} {v : Value} {xs : List Value} (h : w.ownsRow b e size v n xs) (hb : b' ≤ b) : w.ownsRow b' e size v n xs := by
  refine ⟨h.1, ?_⟩
  rcases h.2 with hn | ⟨g', cap, cur, rfl, hlo, rest⟩
  · exact .inl hn
  · exact .inr ⟨g', cap, cur, rfl, Nat.le_trans hb hlo, rest⟩
/-- What PRPut answers. -/
def PutsR (w : World) (l : List UInt8) (e : Ending) (w' : World) : Prop := ∃ A c, e = .returned (.slice A l.length c) ∧ w'.ownsRow w.heap.size 5 1 (.slice A l.length c) l.length (Lib.byteCells l) ∧ Keeps (fun _ => False) w w'
set_option maxRecDepth 100000 in
set_option maxHeartbeats 1000000 in
theorem prPutL (w : World) (Q : Option Addr) (n cq : Nat) (asks : List PAsk) (hE : AsksAt w Q n asks) (hn : n ≤ 10000) (hq : ∀ a ∈ asks, Puts a) (hs : ∀ k, (allB (asks.take k)).length ≤ 1000000) :
    Calls Tryd.prog 17 #[.slice Q n cq] w fun e w' => PutsR w (allB asks) e w' := by
  have K0 := (Keeps.refl (fun _ => False) w).alloc (.cells #[.slice Q n cq] 23)
  have hp := Whole.new w 23 #[.slice Q n cq]
  have HE := Lib.hid (encoded_anyC (w.alloc (.cells #[.slice Q n cq] 23)) (allB asks) 29 #[.pointer (some ⟨w.heap.size, 0, none⟩)] (fun args w => rfl) (fun w1 hbuf hK => putAllL _ w1 _ w.heap.size Q n cq asks rfl hK hbuf hp (hE.new K0) hn hq hs))
  have HK0 := Lib.hid K0
  have hmf : ∀ (fn : Fn) (first cap : Array Value) (w : World), (Instr.makeFunc fn first cap).run Tryd.prog w = .ok (.func fn first cap) w := fun _ _ _ _ => rfl
  clear hE hn hq hs K0 hp
  generalize allB asks = l at *
  go_enter Tryd.func17, Tryd.ntmps17
  go_wp2_with fail
  refine HE.out.mono ?_
  rintro e w2 ⟨A, c, rfl, ho, K2, _⟩
  go_wp2_with fail
  go_ret
  exact ⟨A, c, rfl, own_lowP ho HK0.out.size, HK0.out.trans K2 (fun _ _ h => h)⟩
/-- The first values of a row of values. -/
theorem AsksAt.take {w : World} {E : Option Addr} {n k : Nat} {asks : List PAsk} (h : AsksAt w E n asks) (hk : k ≤ n) : AsksAt w E k (asks.take k) := by
  have hl : (asks.take k).length = k := by rw [List.length_take, h.len]; omega
  refine ⟨hl, ⟨by rw [flat4l askC askC_len, hl], fun h0 => ?_⟩, fun a ha => h.bytes a (List.mem_of_mem_take ha)⟩
  obtain ⟨ad, h1, h2, h3⟩ := h.rows.2 (by omega)
  refine ⟨ad, h1, h2, fun j u hu => h3 j u ?_⟩
  have hsp : (asks.map askC).flatten = ((asks.take k).map askC).flatten ++ ((asks.drop k).map askC).flatten := by
    rw [← List.flatten_append, ← List.map_append, List.take_append_drop]
  rw [hsp, List.getElem?_append_left (List.getElem?_eq_some_iff.1 hu).1]
  exact hu
end Go.Proofs.YthfoleapdmpdfaaDoor
