/- A row of a column of arrays of numbers; a new reader; what is left in it. Conditions: sizes far below the machine's. -/
import Derived.Test.YtgnbeianlnepfaaDr
namespace Go.Proofs.Ytgnbeianlnepfaa
open Go.RowKit Go.Lib
set_option linter.unusedVariables false
theorem flat_at {α : Type} : ∀ (RR : List (List α)) (k j : Nat) (X : List α) (x : α), RR[k]? = some X → X[j]? = some x → RR.flatten[((RR.take k).map List.length).sum + j]? = some x
  | [], k, j, X, x, h, _ => by simp at h
  | a :: r, 0, j, X, x, h, hx => by
    obtain rfl : a = X := by simpa using h
    rw [List.take_zero, List.map_nil, List.sum_nil, Nat.zero_add, List.flatten_cons, List.getElem?_append_left (List.getElem?_eq_some_iff.1 hx).1]
    exact hx
  | a :: r, k + 1, j, X, x, h, hx => by
    have ih := flat_at r k j X x (by simpa using h) hx
    rw [List.take_succ_cons, List.map_cons, List.sum_cons, List.flatten_cons, List.getElem?_append_right (by omega)]
    rw [show a.length + ((r.take k).map List.length).sum + j - a.length = ((r.take k).map List.length).sum + j by omega]
    exact ih
theorem flat_end {α : Type} {RR : List (List α)} {k : Nat} {X : List α} (h : RR[k]? = some X) : ((RR.take k).map List.length).sum + X.length ≤ RR.flatten.length := by
  have h1 := flat_le RR (k + 1)
  rw [take_flat h, List.length_append, List.length_flatten] at h1
  exact h1
set_option maxRecDepth 10000 in
theorem naRow (w : World) (base ga gs : Nat) (O : Option Addr) (ko : Nat) (A : Option Addr) (c : Nat) (RR : List (List Nat)) (k : Nat) (X : List Nat) (hC : NArrAt w base ga gs O ko A c RR) (hX : RR[k]? = some X) (hn : RR.length ≤ 100000) (hf : RR.flatten.length ≤ 1000000) :
    Calls Try.prog 120 #[.agg #[.slice O RR.length ko, .iface 68 (.pointer (some ⟨gs, 0, none⟩))], .int .i64 (k : Int)] w fun e w' => RowRes w X e w' := by
  have hk : k < RR.length := (List.getElem?_eq_some_iff.1 hX).1
  have K0 := (Keeps.refl (fun _ => False) w).alloc (.cells #[.slice O RR.length ko, .iface 68 (.pointer (some ⟨gs, 0, none⟩))] 130)
  have hC1 := hC.new K0
  have hta : (RR.take (k + 1)) = RR.take k ++ [X] := by rw [List.take_add_one, hX]; rfl
  have HA := Lib.hid (naRowApp _ O A RR.length ko RR.flatten.length c gs k ((RR.take k).map List.length).sum X.length base X RR.flatten (ends 0 (RR.map List.length)) hC1.col.blk hC1.off (Rd.own hC1.col.own) hk hn rfl rfl (by have := flat_end hX; omega) (by
      rw [ends_get _ 0 k (by rw [List.length_map]; exact hk), ← List.map_take, hta, List.map_append, List.sum_append, Nat.zero_add]; simp) (fun h0 => by
      rw [ends_get _ 0 (k - 1) (by rw [List.length_map]; omega), ← List.map_take, Nat.zero_add, Nat.sub_add_cancel h0]) (fun h0 => by subst h0; simp) (fun j x hx => flat_at RR k j X x hX hx))
  have HK := Lib.hid K0
  clear hC hC1 hX hta K0
  generalize RR.length = n at *
  go_enter Try.func120, Try.ntmps120
  go_wp2_with fail
  refine HA.out.mono ?_
  rintro e w2 ⟨T, ct, rfl, ho, K2⟩
  have HO := Lib.hid ho
  have HK2 := Lib.hid K2
  clear ho K2
  go_wp2_with fail
  go_ret
  exact ⟨T, ct, rfl, own_base_le HO.out (by rw [World.size_alloc]; omega), HK.out.trans HK2.out (fun _ _ h => h)⟩
theorem RdrOn.base_le {w : World} {base base' rb bb : Nat} {D R : Option Nat} {d : List UInt8} (h : RdrOn w base rb bb D R d) (hb : base' ≤ base) : RdrOn w base' rb bb D R d := by
  obtain ⟨A, c, C, n, k, q, hR, hA, hC⟩ := h
  exact ⟨A, c, C, n, k, q, ⟨hR.rdr, hR.blk, own_base_le hR.own hb, hR.data, hR.cap, Nat.le_trans hb hR.lo1, Nat.le_trans hb hR.lo2, hR.sep⟩, hA, hC⟩
set_option maxRecDepth 10000 in
theorem leftOf (w : World) (base rb bb : Nat) (D R : Option Nat) (d : List UInt8) (hR : RdrOn w base rb bb D R d) :
    Calls Try.prog 42 #[.pointer (some ⟨rb, 0, none⟩)] w fun e w' => e = .returned (.int .i64 (d.length : Int)) ∧ w = w' := by
  obtain ⟨A, c, C, n, k, q, hR, hA, hC⟩ := hR
  have h0 : w.cell? ⟨rb, 0, none⟩ = some (.slice A d.length c) := hR.rdr.cell 0
  have hlt := hR.rdr.lt
  generalize d.length = m at *
  clear hR hA hC
  go_enter Try.func42, Try.ntmps42
  go_wp2
  go_ret
  exact ⟨rfl, rfl⟩
set_option maxRecDepth 10000 in
theorem newRdr (w : World) (A : Option Addr) (c : Nat) (d : List UInt8) (hR : Rd w 1 A d.length (Lib.byteCells d)) (hc : d.length ≤ c) (hA : ∀ i, ob A = some i → i < w.heap.size) :
    Calls Try.prog 37 #[.slice A d.length c] w fun e w' => e = .returned (.pointer (some ⟨w.heap.size + 1, 0, none⟩)) ∧
      RdrOn w' w.heap.size (w.heap.size + 1) w.heap.size (ob A) none d ∧ Keeps (fun _ => False) w w' ∧ w'.heap.size = w.heap.size + 2 := by
  go_enter Try.func37, Try.ntmps37
  go_wp2
  go_ret
  have h1 := Whole.new w 111 #[.slice none 0 0]
  have h2 := Whole.new (w.alloc (.cells #[.slice none 0 0] 111)) 113 #[.slice A d.length c, .pointer (some ⟨w.heap.size, 0, none⟩)]
  rw [World.size_alloc] at h2
  refine ⟨rfl, ⟨A, c, none, 0, 0, [], ⟨h2, h1.alloc _, ⟨by simp, .inl ⟨rfl, rfl⟩⟩, (hR.alloc _).alloc _, hc, by omega, by omega, fun i hi => ?_⟩, .inl rfl, rfl⟩, ((Keeps.refl _ _).alloc _).alloc _, by simp⟩
  have := hA i hi
  exact ⟨by omega, by omega, by simp [ob], by simp; omega⟩
theorem results_ttc {P : Program} {fn : Func} {t u v : Tmp} {ty : TypeId} (h : fn.results = #[.tmp u, .tmp v, .cell t ty]) (tmps : Array Value) (p : Addr) (w : World) (x : Value) (hp : tmps.getD t undef = .pointer (some p)) (hx : (loadVar ty p).run P w = .ok x w) :
    (results fn tmps).run P w = .ok (.tuple #[tmps.getD u undef, tmps.getD v undef, x]) w := by
  have hp2 : tmps[t]?.getD undef = .pointer (some p) := by simpa using hp
  simp [results, h, hp2, asAddr, hx]
end Go.Proofs.Ytgnbeianlnepfaa
