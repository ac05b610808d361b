/- Of bytes that are cut off: what is looked at, and what is got of all values: plain words. Conditions: as for values that are put. -/
import Derived.Test.YthfoleapdmpdfaaDoorQf
namespace Go.Proofs.YthfoleapdmpdfaaDoor
open Go.RowKit Go.Lib
set_option linter.unusedVariables false
theorem readM_go {d : List UInt8} {asks : List PAsk} {k : Nat} {l : List UInt8} {a : PAsk} (ha : asks[k]? = some a) (h : (readM d (asks.take (k + 1))).1 = some l) : ∃ l0, (readM d (asks.take k)).1 = some l0 := by
  rw [readM_snoc ha] at h
  rcases hq : (readM d (asks.take k)).1 with _ | l0
  · rw [stepM_stop hq] at h; cases h
  · exact ⟨l0, rfl⟩
theorem readM_left {l : List PAsk} {n : Nat} (hq : ∀ a ∈ l, PutsV a) : ∀ k, k ≤ l.length → ∀ lft, (readM ((allB l).take n) ((l.map askOf).take k)).1 = some lft → (allB (l.take k)).length ≤ n ∧ lft = ((allB l).take n).drop (allB (l.take k)).length
  | 0, _, lft, h => by
    simp only [List.take_zero, readM, List.foldl_nil, Option.some.injEq] at h
    subst h
    exact ⟨Nat.zero_le _, rfl⟩
  | k + 1, hk, lft, h => by
    obtain ⟨a, ha⟩ : ∃ a, l[k]? = some a := ⟨_, List.getElem?_eq_getElem (show k < l.length by omega)⟩
    have ha2 : (l.map askOf)[k]? = some (askOf a) := by rw [List.getElem?_map, ha]; rfl
    obtain ⟨l0, h0⟩ := readM_go ha2 h
    obtain ⟨hn, _⟩ := readM_left hq k (by omega) l0 h0
    by_cases hc : n < (allB (l.take (k + 1))).length
    · rw [readM_stop hq ha hn hc] at h; cases h
    · have hle : (allB (l.take (k + 1))).length ≤ n := by omega
      rw [readM_whole hq (k + 1) hk hle] at h
      exact ⟨hle, (Option.some.inj h).symm⟩
theorem uv_take (L m : Nat) (hL : L ≤ 1000) (X : List UInt8) (x : Nat) (r : List UInt8) (h : uvGo 10 0 0 ((Lib.uvarint L ++ X).take m) = some (x, r)) : x = L := by
  by_cases hm : m < (Lib.uvarint L).length
  · have hc := uvGo_cut L 0 0 m (by omega) (by simp; omega) hm
    simp only [Nat.sub_zero] at hc
    rw [List.take_append_of_le_length (by omega), hc] at h
    cases h
  · have hw := uvGo_whole L 0 0 (X.take (m - (Lib.uvarint L).length)) (by omega) (by simp; omega)
    simp only [Nat.sub_zero, Nat.mul_zero, Nat.pow_zero, Nat.mul_one, Nat.zero_add] at hw
    rw [List.take_append, List.take_of_length_le (by omega), hw] at h
    injection h with h
    injection h with h _
    exact h.symm
theorem looks_cut {l : List PAsk} {n : Nat} (hq : ∀ a ∈ l, PutsV a) : Looks ((allB l).take n) (l.map askOf) := by
  intro k b lft hb hl hlen x m hx
  rw [List.getElem?_map] at hb
  obtain ⟨a, ha, rfl⟩ := Option.map_eq_some_iff.1 hb
  obtain ⟨hk, _⟩ := List.getElem?_eq_some_iff.1 ha
  obtain ⟨hn, rfl⟩ := readM_left hq k (by omega) lft hl
  obtain ⟨⟨h1, h19, hu, hv0, hs, _⟩, hv⟩ := hq a (List.mem_of_getElem? ha)
  have ho : a.op = 18 := by
    simp only [lenOp, askOf, askOp] at hlen
    split at hlen
    · simp at hlen
    · simp at hlen; omega
  have hB : askB a = Lib.uvarint a.s.length ++ a.s := by rw [askB, ho]; rfl
  rw [allB_split ha, List.take_append, List.take_of_length_le hn, List.drop_left' rfl, hB, List.append_assoc] at hx
  have := uv_take _ _ hs _ _ _ hx
  omega
theorem foldl_grow (asks : List PAsk) : ∀ q : Option (List UInt8) × List Gv, ∃ R, (asks.foldl stepM q).2 = q.2 ++ R := by
  induction asks with
  | nil => exact fun q => ⟨[], by simp⟩
  | cons a t ih =>
    intro q
    obtain ⟨R, hR⟩ := ih (stepM q a)
    have hs : ∃ y, (stepM q a).2 = q.2 ++ [y] := by
      unfold stepM
      split
      · exact ⟨_, rfl⟩
      · split
        · exact ⟨_, rfl⟩
        · exact ⟨_, rfl⟩
    obtain ⟨y, hy⟩ := hs
    exact ⟨y :: R, by rw [List.foldl_cons, hR, hy, List.append_assoc]; rfl⟩
theorem readM_pre (d : List UInt8) (asks : List PAsk) (k : Nat) : ∃ R, (readM d asks).2 = (readM d (asks.take k)).2 ++ R := by
  obtain ⟨R, hR⟩ := foldl_grow (asks.drop k) (readM d (asks.take k))
  refine ⟨R, ?_⟩
  rw [← hR, readM, readM, ← List.foldl_append, List.take_append_drop]
/-- The values that are whole are got. -/
theorem cut_whole {l : List PAsk} {n k : Nat} (hq : ∀ a ∈ l, PutsV a) (hk : k ≤ l.length) (hn : (allB (l.take k)).length ≤ n) : (readM ((allB l).take n) (l.map askOf)).2.take k = (l.take k).map wantG := by
  obtain ⟨R, hR⟩ := readM_pre ((allB l).take n) (l.map askOf) k
  rw [hR, readM_whole hq k hk hn, List.take_left' (by rw [List.length_map, List.length_take]; omega)]
/-- The one behind them is not. -/
theorem cut_stop {l : List PAsk} {n k : Nat} (hq : ∀ a ∈ l, PutsV a) (hk : k < l.length) (hn : (allB (l.take k)).length ≤ n) (hc : n < (allB (l.take (k + 1))).length) : (readM ((allB l).take n) (l.map askOf)).2[k]? = some (0, 0, [], true) := by
  obtain ⟨a, ha⟩ : ∃ a, l[k]? = some a := ⟨_, List.getElem?_eq_getElem hk⟩
  obtain ⟨R, hR⟩ := readM_pre ((allB l).take n) (l.map askOf) (k + 1)
  rw [hR, readM_stop hq ha hn hc, List.append_assoc, List.getElem?_append_right (by rw [List.length_map, List.length_take]; omega), List.length_map, List.length_take, Nat.min_eq_left (by omega), Nat.sub_self]
  rfl
/-- The first answers of a row of answers. -/
theorem GotsAt.take {w : World} {E : Option Addr} {n k : Nat} {gs : List PGot} (h : GotsAt w E n gs) (hk : k ≤ n) : GotsAt w E k (gs.take k) := by
  have hl : (gs.take k).length = k := by rw [List.length_take, h.len]; omega
  refine ⟨hl, ⟨by rw [flat4l gotC gotC_len, hl], fun h0 => ?_⟩, fun a ha => h.bytes a (List.mem_of_mem_take ha)⟩
  obtain ⟨ad, h1, h2, h3⟩ := h.rows.2 (by omega)
  refine ⟨ad, h1, h2, fun j u hu => h3 j u ?_⟩
  have hsp : (gs.map gotC).flatten = ((gs.take k).map gotC).flatten ++ ((gs.drop k).map gotC).flatten := by
    rw [← List.flatten_append, ← List.map_append, List.take_append_drop]
  rw [hsp, List.getElem?_append_left (List.getElem?_eq_some_iff.1 hu).1]
  exact hu
/-- What is wanted of a value, where its bytes lie. -/
def wantP (a : PAsk) : PGot := ⟨(wantG a).1, (wantG a).2.1, (wantG a).2.2.1, false, if a.op = 18 ∨ a.op = 19 then a.A else none, if a.op = 18 ∨ a.op = 19 then a.c else 0⟩
theorem wantP_val (a : PAsk) : (wantP a).val = wantG a := rfl
theorem allB_len {l : List PAsk} (hq : ∀ a ∈ l, Puts a) : (allB l).length ≤ 1020 * l.length := by
  induction l with
  | nil => simp [allB]
  | cons a t ih =>
    have h1 := ih (fun b hb => hq b (List.mem_cons_of_mem _ hb))
    have h2 : (askB a).length ≤ 1020 := by
      obtain ⟨h1, h19, hu, hv0, hs, _⟩ := hq a (List.mem_cons_self ..)
      have hu1 := Lib.uvarint_length64 (x := a.u) hu
      have hu2 := Lib.uvarint_length64 (x := a.s.length) (by omega)
      have hop : a.op.toNat = 1 ∨ a.op.toNat = 2 ∨ a.op.toNat = 3 ∨ a.op.toNat = 4 ∨ a.op.toNat = 5 ∨ a.op.toNat = 6 ∨ a.op.toNat = 7 ∨ a.op.toNat = 8 ∨ a.op.toNat = 9 ∨ a.op.toNat = 10 ∨ a.op.toNat = 11 ∨ a.op.toNat = 12 ∨ a.op.toNat = 13 ∨ a.op.toNat = 14 ∨ a.op.toNat = 15 ∨ a.op.toNat = 16 ∨ a.op.toNat = 17 ∨ a.op.toNat = 18 ∨ a.op.toNat = 19 := by omega
      unfold askB
      rcases hop with h | h | h | h | h | h | h | h | h | h | h | h | h | h | h | h | h | h | h <;> rw [h] <;> simp [primB, leb_length] <;> omega
    rw [allB, List.map_cons, List.flatten_cons, List.length_append, List.length_cons]
    rw [allB] at h1
    omega
end Go.Proofs.YthfoleapdmpdfaaDoor
