/- Of bytes that are cut off all values that are whole are read again, and no others: plain words. Conditions: as for values that are put. -/
import Derived.Test.YthfoleapdmpdfaaDoorQe
namespace Go.Proofs.YthfoleapdmpdfaaDoor
open Go.RowKit Go.Lib
set_option linter.unusedVariables false
/-- What asks for a value that was put. -/
def askOf (a : PAsk) : PAsk := ⟨askOp a.op, if a.op = 19 then a.s.length else 0, 0, [], none, 0⟩
def wantG (a : PAsk) : Gv := ((wantOf a.op.toNat a.u a.v.toNat a.s).1, (wantOf a.op.toNat a.u a.v.toNat a.s).2.1, (wantOf a.op.toNat a.u a.v.toNat a.s).2.2, false)
def PutsV (a : PAsk) : Prop := Puts a ∧ a.v < 18446744073709551616
theorem ask_get {a : PAsk} (h : PutsV a) (rest : List UInt8) : getM (askOf a).op.toNat (askOf a).u (askOf a).s (askB a ++ rest) = some ((wantG a).1, (wantG a).2.1, (wantG a).2.2.1, rest) := by
  obtain ⟨⟨h1, h19, hu, hv0, hs, _⟩, hv⟩ := h
  have hx := get_whole a.op.toNat a.u a.v.toNat a.s rest (by omega) (by omega) hu (by omega) hs
  have e1 : (askOf a).op.toNat = if a.op.toNat = 17 then 16 else a.op.toNat := by
    show (askOp a.op).toNat = _
    unfold askOp
    split
    · rename_i h; rw [if_pos (by omega)]; rfl
    · rename_i h; rw [if_neg (by omega)]
  have e2 : (askOf a).u = if a.op.toNat = 19 then a.s.length else 0 := by
    show (if a.op = 19 then a.s.length else 0) = _
    split
    · rename_i h; rw [if_pos (by omega)]
    · rename_i h; rw [if_neg (by omega)]
  rw [e1, e2]
  exact hx
theorem ask_cut {a : PAsk} (h : PutsV a) (m : Nat) (hm : m < (askB a).length) : getM (askOf a).op.toNat (askOf a).u (askOf a).s ((askB a).take m) = none := by
  obtain ⟨⟨h1, h19, hu, hv0, hs, _⟩, hv⟩ := h
  have hx := get_cut a.op.toNat a.u a.v.toNat a.s m (by omega) (by omega) hu hs hm
  have e1 : (askOf a).op.toNat = if a.op.toNat = 17 then 16 else a.op.toNat := by
    show (askOp a.op).toNat = _
    unfold askOp
    split
    · rename_i h; rw [if_pos (by omega)]; rfl
    · rename_i h; rw [if_neg (by omega)]
  have e2 : (askOf a).u = if a.op.toNat = 19 then a.s.length else 0 := by
    show (if a.op = 19 then a.s.length else 0) = _
    split
    · rename_i h; rw [if_pos (by omega)]
    · rename_i h; rw [if_neg (by omega)]
  rw [e1, e2]
  exact hx
theorem allB_split {l : List PAsk} {k : Nat} {a : PAsk} (h : l[k]? = some a) : allB l = allB (l.take k) ++ (askB a ++ allB (l.drop (k + 1))) := by
  obtain ⟨hk, hg⟩ := List.getElem?_eq_some_iff.1 h
  have hd : l.drop k = a :: l.drop (k + 1) := by rw [← hg]; exact List.drop_eq_getElem_cons hk
  calc allB l = allB (l.take k ++ l.drop k) := by rw [List.take_append_drop]
    _ = _ := by rw [allB, List.map_append, List.flatten_append, hd]; rfl
theorem cut_mid (P B R : List UInt8) (n : Nat) (h : P.length + B.length ≤ n) : ((P ++ (B ++ R)).take n).drop P.length = B ++ R.take (n - P.length - B.length) := by
  rw [List.take_append, List.take_of_length_le (show P.length ≤ n by omega), List.drop_left' rfl, List.take_append, List.take_of_length_le (show B.length ≤ n - P.length by omega)]
theorem cut_in (P B R : List UInt8) (n : Nat) (h : P.length ≤ n) (h2 : n < P.length + B.length) : ((P ++ (B ++ R)).take n).drop P.length = B.take (n - P.length) := by
  rw [List.take_append, List.take_of_length_le h, List.drop_left' rfl, List.take_append_of_le_length (show n - P.length ≤ B.length by omega)]
theorem readM_whole {l : List PAsk} {n : Nat} (hq : ∀ a ∈ l, PutsV a) : ∀ k, k ≤ l.length → (allB (l.take k)).length ≤ n → readM ((allB l).take n) ((l.map askOf).take k) = (some (((allB l).take n).drop (allB (l.take k)).length), (l.take k).map wantG)
  | 0, _, _ => by simp [readM, allB]
  | k + 1, hk, hn => by
    obtain ⟨a, ha⟩ : ∃ a, l[k]? = some a := ⟨_, List.getElem?_eq_getElem (show k < l.length by omega)⟩
    have hsn := allB_snoc ha
    rw [hsn, List.length_append] at hn
    have ih := readM_whole (n := n) hq k (by omega) (by omega)
    have ha2 : (l.map askOf)[k]? = some (askOf a) := by rw [List.getElem?_map, ha]; rfl
    have hrem : ((allB l).take n).drop (allB (l.take k)).length = askB a ++ (allB (l.drop (k + 1))).take (n - (allB (l.take k)).length - (askB a).length) := by
      have := cut_mid (allB (l.take k)) (askB a) (allB (l.drop (k + 1))) n (by omega)
      rwa [← allB_split ha] at this
    have hg := ask_get (hq a (List.mem_of_getElem? ha)) ((allB (l.drop (k + 1))).take (n - (allB (l.take k)).length - (askB a).length))
    rw [← hrem] at hg
    rw [readM_snoc ha2, ih, stepM_ok rfl hg]
    have h2 : ((allB l).take n).drop (allB (l.take (k + 1))).length = (allB (l.drop (k + 1))).take (n - (allB (l.take k)).length - (askB a).length) := by
      rw [hsn, List.length_append, ← List.drop_drop, hrem, List.drop_left' rfl]
    rw [h2, List.take_add_one, ha, List.map_append]
    rfl
theorem readM_stop {l : List PAsk} {n k : Nat} {a : PAsk} (hq : ∀ a ∈ l, PutsV a) (ha : l[k]? = some a) (hn : (allB (l.take k)).length ≤ n) (hc : n < (allB (l.take (k + 1))).length) :
    readM ((allB l).take n) ((l.map askOf).take (k + 1)) = (none, (l.take k).map wantG ++ [(0, 0, [], true)]) := by
  have hk := (List.getElem?_eq_some_iff.1 ha).1
  have ih := readM_whole hq k (by omega) hn
  have ha2 : (l.map askOf)[k]? = some (askOf a) := by rw [List.getElem?_map, ha]; rfl
  rw [allB_snoc ha, List.length_append] at hc
  have hrem : ((allB l).take n).drop (allB (l.take k)).length = (askB a).take (n - (allB (l.take k)).length) := by
    have := cut_in (allB (l.take k)) (askB a) (allB (l.drop (k + 1))) n (by omega) (by omega)
    rwa [← allB_split ha] at this
  have hg := ask_cut (hq a (List.mem_of_getElem? ha)) (n - (allB (l.take k)).length) (by omega)
  rw [← hrem] at hg
  rw [readM_snoc ha2, ih, stepM_err rfl hg]
end Go.Proofs.YthfoleapdmpdfaaDoor
