/- Bounds of the rows that the laws look at, and small helpers. Conditions: those that each theorem names. -/
import Derived.Test.YtpbnhhfpbadhjaaGreatSx
import Derived.Test.YtpbnhhfpbadhjaaGreatAe
import Derived.Test.YtpbnhhfpbadhjaaGreatPre
namespace Go.Proofs.YtpbnhhfpbadhjaaGreat
open Go.RowKit Go.Lib
set_option linter.unusedVariables false
theorem u64s_ends : ∀ (ks : List Nat) (s : Nat), u64s (ends s ks) = offB ks s
  | [], _ => rfl
  | k :: r, s => by rw [ends, u64s, List.map_cons, List.flatten_cons, ← u64s, u64s_ends r (s + k), offB]
theorem arrB_spec (LL : List (List ByteArray)) : arrB LL = offB (LL.map List.length) 0 ++ (LL.flatten.map strB).flatten := by rw [arrB, u64s_ends, enc_str]
theorem flat_bound {α : Type} (m : Nat) : ∀ (LL : List (List α)), (∀ L ∈ LL, L.length ≤ m) → LL.flatten.length ≤ LL.length * m
  | [], _ => by simp
  | L :: r, h => by
    have h1 := h L (List.mem_cons_self ..)
    have h2 := flat_bound m r fun X hX => h X (List.mem_cons_of_mem _ hX)
    rw [List.flatten_cons, List.length_append, List.length_cons, Nat.add_mul, Nat.one_mul]
    omega
theorem strB_bound {x : ByteArray} (h : x.size ≤ 1000) : (strB x).length ≤ x.size + 10 := by
  have := Lib.uvarint_length64 (x := x.size) (by omega)
  rw [strB, List.length_append, sl_length]
  omega
theorem lists_len (LL : List (List ByteArray)) : (listsOf LL).length ≤ 21 := by
  rw [listsOf, List.length_append, List.length_map, List.length_take]
  simp
  omega
theorem lists_in (LL : List (List ByteArray)) : ∀ L ∈ listsOf LL, L.length ≤ 12 ∧ ∀ x ∈ L, x.size ≤ 60 := by
  intro L hL
  rcases List.mem_append.1 hL with h | h
  · obtain ⟨X, _, rfl⟩ := List.mem_map.1 h
    refine ⟨by rw [wordsOf_length]; omega, fun x hx => ?_⟩
    obtain ⟨y, _, rfl⟩ := List.mem_map.1 hx
    exact cut60_size y
  · rw [List.mem_singleton.1 h]
    refine ⟨by decide, ?_⟩
    intro x hx
    rcases List.mem_cons.1 hx with rfl | hx
    · decide
    rcases List.mem_cons.1 hx with rfl | hx
    · decide
    rw [List.mem_singleton.1 hx]
    decide
/-- All bounds of the rows that are looked at. -/
theorem lists_small (LL : List (List ByteArray)) : (listsOf LL).flatten.length ≤ 252 ∧ (∀ x ∈ (listsOf LL).flatten, x.size ≤ 60) ∧ ((listsOf LL).flatten.map sl).flatten.length ≤ 15120 ∧ ((listsOf LL).flatten.map strB).flatten.length ≤ 17640 ∧ ((listsOf LL).map List.length).sum ≤ 252 := by
  have h1 := lists_len LL
  have h2 := lists_in LL
  have hx : ∀ x ∈ (listsOf LL).flatten, x.size ≤ 60 := fun x hx => by
    obtain ⟨L, hL, hm⟩ := List.mem_flatten.1 hx
    exact (h2 L hL).2 x hm
  have hf : (listsOf LL).flatten.length ≤ 252 := Nat.le_trans (flat_bound 12 _ fun L hL => (h2 L hL).1) (by omega)
  refine ⟨hf, hx, ?_, ?_, by rw [← List.length_flatten]; exact hf⟩
  · have h := flat_bound 60 ((listsOf LL).flatten.map sl) fun l hl => by
      obtain ⟨x, hm, rfl⟩ := List.mem_map.1 hl
      rw [sl_length]; exact hx x hm
    rw [List.length_map] at h
    omega
  · have h := flat_bound 70 ((listsOf LL).flatten.map strB) fun l hl => by
      obtain ⟨x, hm, rfl⟩ := List.mem_map.1 hl
      have h3 := hx x hm
      have := strB_bound (x := x) (by omega)
      omega
    rw [List.length_map] at h
    omega
theorem cv_str {w : World} {A : Option Addr} {n c : Nat} {l : List UInt8} (h : Rd w 1 A n (Lib.byteCells l)) : (convert 33 9 (.slice A n c)).run Tryz.prog w = .ok (.string ⟨l.toArray⟩) w :=
  run_str_rd Tryz.underlying33 Tryz.underlying5 Tryz.underlying9 h


theorem own_capN {w : World} {b : Nat} {e : TypeId} {n c : Nat} {A : Option Addr} {xs : List Value} (h : w.ownsRow b e 1 (.slice A n c) n xs) (hn : 0 < n) : n ≤ c := by
  obtain ⟨g, cap, hv, h1, h2⟩ := h.form hn
  injection hv with e1 e2 e3
  rcases h.2 with ⟨h', h0⟩ | ⟨g', cap', cur, h', _, _, hnc, _⟩
  · omega
  · injection h' with h1 h2 h3
    omega
theorem row_nums (w : World) (a : Option Addr) (len cap : Nat) (zs : List Int) (h : (a = none ∧ len = 0 ∧ cap = 0 ∧ zs = []) ∨ ∃ x, a = some x ∧ len ≤ cap ∧ cap ≤ maxLen ∧ zs.length = cap ∧ (∀ i, i < zs.length → w.cell? (x.add i) = some (.int .u32 (zs.getD i 0))) ∧ ∀ n ∈ zs, (Lit.int .u32 n).wf = true) :
    ∃ l : List Nat, l.length = len ∧ Rd w 1 a len (nv l) ∧ len ≤ cap ∧ len ≤ maxLen ∧ ∀ x ∈ l, x < 4294967296 := by
  rcases h with ⟨rfl, rfl, rfl, rfl⟩ | ⟨x, rfl, hlc, hm, hz, hcell, hwf⟩
  · exact ⟨[], rfl, Rd.none', Nat.le_refl _, Nat.zero_le _, fun x h => by cases h⟩
  · have hin : ∀ z ∈ zs, 0 ≤ z ∧ z < 4294967296 := fun z hz => by
      have hb := hwf z hz
      simp [Lit.wf, IntKind.min, IntKind.max, IntKind.signed, IntKind.bits] at hb
      omega
    refine ⟨(zs.take len).map fun z => z.toNat, by simp; omega, ⟨by simp [nv]; omega, fun hn => ?_⟩, hlc, Nat.le_trans hlc hm, fun y hy => ?_⟩
    · have hlt : x.block < w.heap.size := by
        have h0 := hcell 0 (by omega)
        have e0 : x.add 0 = x := by simp [Addr.add]
        rw [e0] at h0
        rcases Nat.lt_or_ge x.block w.heap.size with h | h
        · exact h
        · simp [World.cell?, Array.getElem?_eq_none h] at h0
      refine ⟨x, rfl, hlt, fun j u hu => ?_⟩
      simp only [nv, List.map_map, List.getElem?_map, Option.map_eq_some_iff] at hu
      obtain ⟨z, hz1, rfl⟩ := hu
      rw [List.getElem?_take] at hz1
      split at hz1
      case isFalse => cases hz1
      have hj : j < zs.length := by omega
      rw [hcell j hj]
      have hz2 : zs.getD j 0 = z := by rw [List.getD_eq_getElem?_getD, hz1]; rfl
      rw [hz2]
      have hb := hin z (List.mem_of_getElem? hz1)
      have e : ((z.toNat : Nat) : Int) = z := by omega
      simp only [Function.comp, e]
    · obtain ⟨z, hz1, rfl⟩ := List.mem_map.1 hy
      have := hin z (List.mem_of_mem_take hz1)
      omega
theorem Rd.first' {w : World} {n k : Nat} {A : Option Addr} {xs : List Value} (h : Rd w 1 A n xs) (hk : k ≤ n) : Rd w 1 A k (xs.take k) := by
  obtain ⟨h1, h2⟩ := h
  refine ⟨by rw [List.length_take]; omega, fun h0 => ?_⟩
  obtain ⟨ad, e, hb, hc⟩ := h2 (by omega)
  exact ⟨ad, e, hb, fun j u hu => hc j u (by
    rw [List.getElem?_take] at hu
    split at hu
    · exact hu
    · cases hu)⟩
/-- The rows that the laws look at. -/
theorem own_zero (w : World) (t : TypeId) {base : Nat} (h : base ≤ w.heap.size) : (w.alloc (.cells #[] t)).ownsRow base t 1 (.slice (some ⟨w.heap.size, 0, none⟩) 0 0) 0 [] :=
  ⟨rfl, .inr ⟨w.heap.size, 0, #[], rfl, h, heap_alloc_new w _, Nat.le_refl _, Nat.zero_le _, rfl, rfl⟩⟩
theorem words_small (m : Nat) (xs : List ByteArray) : ∀ x ∈ wordsOf m xs, x.size ≤ 60 := by
  intro x hx
  obtain ⟨y, _, rfl⟩ := List.mem_map.1 hx
  exact cut60_size y
theorem strs_bounds (a : List ByteArray) (h : ∀ x ∈ a, x.size ≤ 60) : (a.map sl).flatten.length ≤ a.length * 60 ∧ (a.map strB).flatten.length ≤ a.length * 70 := by
  constructor
  · have h1 := flat_bound 60 (a.map sl) fun l hl => by
      obtain ⟨x, hm, rfl⟩ := List.mem_map.1 hl
      rw [sl_length]; exact h x hm
    rwa [List.length_map] at h1
  · have h1 := flat_bound 70 (a.map strB) fun l hl => by
      obtain ⟨x, hm, rfl⟩ := List.mem_map.1 hl
      have h3 := h x hm
      have := strB_bound (x := x) (by omega)
      omega
    rwa [List.length_map] at h1
theorem lists_pos (LL : List (List ByteArray)) : 0 < (listsOf LL).length ∧ 0 < (listsOf LL).flatten.length := by
  constructor
  · rw [listsOf, List.length_append]; simp
  · rw [listsOf, List.flatten_append, List.length_append]; simp
end Go.Proofs.YtpbnhhfpbadhjaaGreat
