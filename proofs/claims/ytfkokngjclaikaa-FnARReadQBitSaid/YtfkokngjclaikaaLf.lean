/- What is left in a reader; a new reader; rows of a list of lists, laid flat. Conditions: those that each theorem names. -/
import Derived.Test.YtfkokngjclaikaaRdr
import Derived.Test.YtfkokngjclaikaaArS
import Derived.Test.YtfkokngjclaikaaArr
namespace Go.Proofs.Ytfkokngjclaikaa
open Go.RowKit Go.Lib
set_option linter.unusedVariables false
theorem flat_at {α : Type} : ∀ (RR : List (List α)) (k j : Nat) (X : List α) (x : α), RR[k]? = some X → X[j]? = some x → RR.flatten[((RR.take k).map List.length).sum + j]? = some x
  | [], k, j, X, x, h, _ => by simp at h
  | a :: r, 0, j, X, x, h, hx => by
    obtain rfl : a = X := by simpa using h
    rw [List.take_zero, List.map_nil, List.sum_nil, Nat.zero_add, List.flatten_cons, List.getElem?_append_left (List.getElem?_eq_some_iff.1 hx).1]
    exact hx
  | a :: r, k + 1, j, X, x, h, hx => by
    have ih := flat_at r k j X x (by simpa using h) hx
    rw [List.take_succ_cons, List.map_cons, List.sum_cons, List.flatten_cons, List.getElem?_append_right (by omega)]
    rw [show a.length + ((r.take k).map List.length).sum + j - a.length = ((r.take k).map List.length).sum + j by omega]
    exact ih
theorem flat_end {α : Type} {RR : List (List α)} {k : Nat} {X : List α} (h : RR[k]? = some X) : ((RR.take k).map List.length).sum + X.length ≤ RR.flatten.length := by
  have h1 := flat_le RR (k + 1)
  rw [take_flat h, List.length_append, List.length_flatten] at h1
  exact h1
theorem ends_get : ∀ (ns : List Nat) (s i : Nat), i < ns.length → (ends s ns)[i]? = some (s + (ns.take (i + 1)).sum)
  | [], s, i, h => by simp at h
  | a :: r, s, 0, h => by simp [ends]
  | a :: r, s, i + 1, h => by
    rw [ends, List.getElem?_cons_succ, ends_get r (s + a) i (by simpa using h), List.take_succ_cons, List.sum_cons, Nat.add_assoc]
theorem ends_le (ns : List Nat) : ∀ x ∈ ends 0 ns, x ≤ ns.sum := by
  intro x hx
  obtain ⟨i, hi, rfl⟩ := List.getElem_of_mem hx
  have hl : i < ns.length := by rwa [ends_length] at hi
  have h := ends_get ns 0 i hl
  rw [List.getElem?_eq_getElem hi] at h
  rw [Option.some.inj h, Nat.zero_add]
  exact sum_le ns (i + 1)
theorem RdrOn.base_le {w : World} {base base' rb bb : Nat} {D R : Option Nat} {d : List UInt8} (h : RdrOn w base rb bb D R d) (hb : base' ≤ base) : RdrOn w base' rb bb D R d := by
  obtain ⟨A, c, C, n, k, q, hR, hA, hC⟩ := h
  exact ⟨A, c, C, n, k, q, ⟨hR.rdr, hR.blk, own_base_le hR.own hb, hR.data, hR.cap, Nat.le_trans hb hR.lo1, Nat.le_trans hb hR.lo2, hR.sep⟩, hA, hC⟩
set_option maxRecDepth 10000 in
theorem leftOf (w : World) (base rb bb : Nat) (D R : Option Nat) (d : List UInt8) (hR : RdrOn w base rb bb D R d) :
    Calls Try.prog 20 #[.pointer (some ⟨rb, 0, none⟩)] w fun e w' => e = .returned (.int .i64 (d.length : Int)) ∧ w = w' := by
  obtain ⟨A, c, C, n, k, q, hR, hA, hC⟩ := hR
  have h0 : w.cell? ⟨rb, 0, none⟩ = some (.slice A d.length c) := hR.rdr.cell 0
  have hlt := hR.rdr.lt
  generalize d.length = m at *
  clear hR hA hC
  go_enter Try.func20, Try.ntmps20
  go_wp2
  go_ret
  exact ⟨rfl, rfl⟩
set_option maxRecDepth 10000 in
theorem newRdr (w : World) (A : Option Addr) (c : Nat) (d : List UInt8) (hR : Rd w 1 A d.length (Lib.byteCells d)) (hc : d.length ≤ c) (hA : ∀ i, ob A = some i → i < w.heap.size) :
    Calls Try.prog 14 #[.slice A d.length c] w fun e w' => e = .returned (.pointer (some ⟨w.heap.size + 1, 0, none⟩)) ∧
      RdrOn w' w.heap.size (w.heap.size + 1) w.heap.size (ob A) none d ∧ Keeps (fun _ => False) w w' ∧ w'.heap.size = w.heap.size + 2 := by
  go_enter Try.func14, Try.ntmps14
  go_wp2
  go_ret
  have h1 := Whole.new w 69 #[.slice none 0 0]
  have h2 := Whole.new (w.alloc (.cells #[.slice none 0 0] 69)) 71 #[.slice A d.length c, .pointer (some ⟨w.heap.size, 0, none⟩)]
  rw [World.size_alloc] at h2
  refine ⟨rfl, ⟨A, c, none, 0, 0, [], ⟨h2, h1.alloc _, ⟨by simp, .inl ⟨rfl, rfl⟩⟩, (hR.alloc _).alloc _, hc, by omega, by omega, fun i hi => ?_⟩, .inl rfl, rfl⟩, ((Keeps.refl _ _).alloc _).alloc _, by simp⟩
  have := hA i hi
  exact ⟨by omega, by omega, by simp [ob], by simp; omega⟩
theorem results_ttc {P : Program} {fn : Func} {t u v : Tmp} {ty : TypeId} (h : fn.results = #[.tmp u, .tmp v, .cell t ty]) (tmps : Array Value) (p : Addr) (w : World) (x : Value) (hp : tmps.getD t undef = .pointer (some p)) (hx : (loadVar ty p).run P w = .ok x w) :
    (results fn tmps).run P w = .ok (.tuple #[tmps.getD u undef, tmps.getD v undef, x]) w := by
  have hp2 : tmps[t]?.getD undef = .pointer (some p) := by simpa using hp
  simp [results, h, hp2, asAddr, hx]
end Go.Proofs.Ytfkokngjclaikaa
