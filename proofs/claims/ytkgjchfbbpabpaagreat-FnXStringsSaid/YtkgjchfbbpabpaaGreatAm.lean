/- ARStr: rows of strings encoded by a new column of arrays of strings. Conditions: sizes far below the machine's. -/
import Derived.Test.YtkgjchfbbpabpaaGreatEo
namespace Go.Proofs.YtkgjchfbbpabpaaGreat
open Go.RowKit Go.Lib
set_option linter.unusedVariables false
def StrsNew (w : World) (e : Ending) (w' : World) : Prop := ∃ ga gs, e = .returned (.pointer (some ⟨ga, 0, none⟩)) ∧ Keeps (fun _ => False) w w' ∧ ArrAt w' w.heap.size ga gs none 0 none 0 none 0 []
set_option maxRecDepth 100000 in
theorem colArray (w : World) (g : Nat) :
    Calls Tryz.prog 37 #[.pointer (some ⟨g, 0, none⟩)] w fun e w' => e = .returned (.pointer (some ⟨w.heap.size, 0, none⟩)) ∧ w' = w.alloc (.cells #[.slice none 0 0, .iface 84 (.pointer (some ⟨g, 0, none⟩))] 226) := by
  go_enter Tryz.func37, Tryz.ntmps37
  go_wp2_with fail
  go_ret
  exact ⟨rfl, rfl⟩
set_option maxRecDepth 100000 in
theorem strsNew (w : World) :
    Calls Tryz.prog 23 #[] w fun e w' => StrsNew w e w' := by
  have hc := colNew w (Nat.le_refl _)
  have K0 := (Keeps.refl (fun _ => False) w).alloc (.cells #[.slice none 0 0, .slice none 0 0] 87)
  have HA := Lib.hid (fun w g => colArray w g)
  go_enter Tryz.func23, Tryz.ntmps23
  go_wp2_with fail
  refine (HA.out _ w.heap.size).mono ?_
  rintro e w1 ⟨rfl, rfl⟩
  go_wp2_with fail
  go_ret
  have K1 := (Keeps.refl (fun _ => False) (w.alloc (.cells #[.slice none 0 0, .slice none 0 0] 87))).alloc (.cells #[.slice none 0 0, .iface 84 (.pointer (some ⟨w.heap.size, 0, none⟩))] 226)
  refine ⟨w.heap.size + 1, w.heap.size, by simp, K0.trans K1 (fun _ _ h => h), ⟨?_, ⟨rfl, .inl ⟨rfl, rfl⟩⟩, hc.new K1, by omega⟩⟩
  have h := Whole.new (w.alloc (.cells #[.slice none 0 0, .slice none 0 0] 87)) 226 #[.slice none 0 0, .iface 84 (.pointer (some ⟨w.heap.size, 0, none⟩))]
  simp only [World.size_alloc] at h
  exact h
/-- What ARStr answers with: the column's bytes. -/
def ArOk (w : World) (l : List UInt8) (e : Ending) (w' : World) : Prop := ∃ A c, e = .returned (.tuple #[.slice A l.length c, .bool true]) ∧ w'.ownsRow w.heap.size 5 1 (.slice A l.length c) l.length (Lib.byteCells l) ∧ Keeps (fun _ => False) w w'
theorem ArOk.of {w w1 w' : World} {l : List UInt8} {e : Ending} (hK : Keeps (fun _ => False) w w1) (h : EncOk w1 l e w') : ArOk w l e w' := by
  obtain ⟨A, c, b, he, hb, ho, K⟩ := h
  exact ⟨A, c, he, own_base_le ho (Nat.le_trans hK.size hb), hK.trans K (fun _ _ h => h)⟩
set_option maxRecDepth 100000 in
set_option maxHeartbeats 1000000 in
theorem arStr (w : World) (E : Option Addr) (n k0 : Nat) (LL : List (List ByteArray)) (hl : LL.length = n) (hR : RowsOf w E LL)
    (hx : ∀ L ∈ LL, ∀ x ∈ L, x.size ≤ 1000) (hf : LL.flatten.length ≤ 1000) (hn : n ≤ 1000) (hs : (LL.flatten.map sl).flatten.length ≤ 1000000) (ha : (arrB LL).length ≤ 1000000) :
    Calls Tryz.prog 8 #[.slice E n k0] w fun e w' => ArOk w (arrB LL) e w' := by
  have HS := Lib.hid (strsNew w)
  have HE := Lib.hid (fun w2 ga gs K hC => encodesOfArr w w2 w.heap.size ga gs E n k0 LL K (Nat.le_refl _) hC hl hR hx hf hn hs ha)
  clear hl hR hx hf hn hs ha
  generalize arrB LL = l at *
  go_enter Tryz.func8, Tryz.ntmps8
  go_wp2_with fail
  refine HS.out.mono ?_
  rintro e w1 ⟨ga, gs, rfl, K1, hC⟩
  have HC := Lib.hid hC
  clear hC
  go_wp2_with fail
  refine (HE.out w1 ga gs K1 HC.out).mono ?_
  rintro e w2 ⟨w3, K3, A, c, b, rfl, hb, ho, K2⟩
  go_wp2_with fail
  go_ret2
  exact ArOk.of K3 ⟨A, c, b, rfl, hb, ho, K2⟩
end Go.Proofs.YtkgjchfbbpabpaaGreat
