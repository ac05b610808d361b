/- What the law on arrays of one string each makes: rows of one string, rows of none, bytes. Conditions: those that each theorem names. -/
import Derived.Test.YtkgjchfbbpabpaaGreatSte
import Derived.Test.YtkgjchfbbpabpaaGreatAm
namespace Go.Proofs.YtkgjchfbbpabpaaGreat
open Go.RowKit Go.Lib
set_option linter.unusedVariables false
/-- Cells that are slices of one string each, each in a block of its own. -/
def OnesAt (w : World) (VO : List Value) (ws : List ByteArray) : Prop := VO.length = ws.length ∧ ∀ (i : Nat) (x : ByteArray), ws[i]? = some x → ∃ b : Nat, VO[i]? = some (Value.slice (some ⟨b, 0, none⟩) 1 1) ∧ Whole w b 9 #[.string x]
theorem OnesAt.nil (w : World) : OnesAt w [] [] := ⟨rfl, fun i x h => by simp at h⟩
theorem OnesAt.keeps {w w' : World} {S : Nat → Prop} {VO : List Value} {ws : List ByteArray} (h : OnesAt w VO ws) (hk : Keeps S w w') (hS : ∀ b x, Whole w b 9 #[.string x] → ¬ S b) : OnesAt w' VO ws := ⟨h.1, fun i x hx => by
  obtain ⟨b, h1, h2⟩ := h.2 i x hx
  exact ⟨b, h1, h2.keeps hk (hS b x h2)⟩⟩
theorem OnesAt.snoc {w : World} {VO : List Value} {ws : List ByteArray} {b : Nat} {x : ByteArray} (h : OnesAt w VO ws) (hb : Whole w b 9 #[.string x]) : OnesAt w (VO ++ [.slice (some ⟨b, 0, none⟩) 1 1]) (ws ++ [x]) := by
  refine ⟨by simp [h.1], fun i y hy => ?_⟩
  rcases Nat.lt_or_ge i ws.length with hi | hi
  · rw [List.getElem?_append_left hi] at hy
    obtain ⟨b', h1, h2⟩ := h.2 i y hy
    exact ⟨b', by rw [List.getElem?_append_left (by rw [h.1]; exact hi)]; exact h1, h2⟩
  · rw [List.getElem?_append_right hi] at hy
    have hi0 : i - ws.length = 0 := by
      rcases Nat.eq_zero_or_pos (i - ws.length) with h0 | h0
      · exact h0
      · rw [List.getElem?_eq_none (by simp; omega)] at hy; cases hy
    rw [hi0] at hy
    injection hy with hy
    subst hy
    exact ⟨b, by rw [List.getElem?_append_right (by rw [h.1]; exact hi), h.1, hi0]; rfl, hb⟩
theorem OnesAt.rows {w : World} {base n c : Nat} {A : Option Addr} {VO : List Value} {ws : List ByteArray} (h : OnesAt w VO ws) (ho : w.ownsRow base 22 1 (.slice A n c) n VO) : RowsOf w A (ws.map fun x => [x]) := fun i xs hx => by
  rw [List.map_map, List.getElem?_map] at hx
  obtain ⟨x, hx1, hx2⟩ := Option.map_eq_some_iff.1 hx
  obtain ⟨b, h1, h2⟩ := h.2 i x hx1
  have hn : 0 < n := by have h1' := ho.1; have := (List.getElem?_eq_some_iff.1 h1).1; omega
  obtain ⟨ad, e, hb, hc⟩ := (Rd.own ho).2 hn
  refine ⟨ad, some ⟨b, 0, none⟩, 1, e, hb, ?_, ?_⟩
  · rw [← hx2]; exact hc i _ h1
  · rw [← hx2]; exact Rd.whole h2 rfl rfl
theorem nones_rows {w : World} {base n c k : Nat} {A : Option Addr} (ho : w.ownsRow base 22 1 (.slice A n c) n (List.replicate k (.slice none 0 0))) : RowsOf w A (List.replicate k ([] : List ByteArray)) := fun i xs hx => by
  rw [List.map_replicate, List.getElem?_replicate] at hx
  split at hx
  · rename_i hi
    injection hx with hx
    subst hx
    have hn : 0 < n := by have h1' := ho.1; rw [List.length_replicate] at h1'; omega
    obtain ⟨ad, e, hb, hc⟩ := (Rd.own ho).2 hn
    exact ⟨ad, none, 0, e, hb, hc i _ (by rw [List.getElem?_replicate, if_pos hi]; rfl), Rd.none'⟩
  · cases hx
/-- The bytes of the numbers from 1 to k, 8 each. -/
def oneB (k : Nat) : List UInt8 := u64s (ends 0 (List.replicate k 1))
theorem oneB_length (k : Nat) : (oneB k).length = 8 * k := by rw [oneB, u64s_length, ends_length, List.length_replicate]
theorem leb8_small {y : Nat} (h : y < 256) : leb 8 y = [UInt8.ofNat y, 0, 0, 0, 0, 0, 0, 0] := by
  have h0 : y / 256 = 0 := by omega
  rw [leb_step 7, h0]
  rfl
theorem oneB_step (k : Nat) (h : k + 1 < 256) : oneB (k + 1) = oneB k ++ [UInt8.ofNat (k + 1), 0, 0, 0, 0, 0, 0, 0] := by
  have hs : (List.replicate k 1).sum = k := by
    induction k with
    | zero => rfl
    | succ k ih => rw [List.replicate_succ, List.sum_cons, ih (by omega)]; omega
  rw [oneB, List.replicate_succ', ends_snoc, u64s_snoc, hs, Nat.zero_add, leb8_small h]
  rfl
def zb (n : Nat) : List UInt8 := List.replicate n 0
theorem ends_zero (k : Nat) : u64s (ends 0 (List.replicate k 0)) = zb (8 * k) := by
  induction k with
  | zero => rfl
  | succ k ih =>
    rw [List.replicate_succ, ends, u64s, List.map_cons, List.flatten_cons, ← u64s, Nat.zero_add, ih]
    rw [show 8 * (k + 1) = 8 + 8 * k by omega, zb, zb, ← List.replicate_append_replicate]
    rfl
theorem map_one_len (ws : List ByteArray) : (ws.map fun x => [x]).map List.length = List.replicate ws.length 1 := by
  induction ws with
  | nil => rfl
  | cons x r ih => rw [List.map_cons, List.map_cons, ih]; rfl
theorem map_one_flat (ws : List ByteArray) : (ws.map fun x => [x]).flatten = ws := by
  induction ws with
  | nil => rfl
  | cons x r ih => rw [List.map_cons, List.flatten_cons, ih]; rfl
theorem arrB_ones (ws : List ByteArray) : arrB (ws.map fun x => [x]) = oneB ws.length ++ encB (ws.map sl) := by
  rw [arrB, map_one_len, map_one_flat]; rfl
theorem arrB_nones (k : Nat) : arrB (List.replicate k []) = zb (8 * k) := by
  rw [arrB, List.map_replicate, List.length_nil, ends_zero, show (List.replicate k ([] : List ByteArray)).flatten = [] by simp]
  simp [encB]
/-- While the law's loop runs. -/
structure DoAt (w2 wr : World) (O : Option Addr) (k co : Nat) (VO : List Value) (N : Option Addr) (kn cn : Nat) (T : Option Addr) (k8 ct : Nat) (tb : List UInt8) (ws : List ByteArray) : Prop where
  oO : wr.ownsRow w2.heap.size 22 1 (.slice O k co) k VO
  on : OnesAt wr VO ws
  oN : wr.ownsRow w2.heap.size 22 1 (.slice N kn cn) kn (List.replicate kn (.slice none 0 0))
  oT : wr.ownsRow w2.heap.size 5 1 (.slice T k8 ct) k8 (Lib.byteCells tb)
  far : ∀ q, ob O = some q → ob N ≠ some q
  kp : Keeps (fun _ => False) w2 wr
section
variable {w2 wr w' : World} {O N T : Option Addr} {k co kn cn k8 ct : Nat} {VO : List Value} {tb : List UInt8} {ws : List ByteArray}
theorem DoAt.new (h : DoAt w2 wr O k co VO N kn cn T k8 ct tb ws) (hk : Keeps (fun _ => False) wr w') : DoAt w2 w' O k co VO N kn cn T k8 ct tb ws :=
  ⟨own_keeps h.oO hk (fun _ _ h => h), h.on.keeps hk (fun _ _ _ h => h), own_keeps h.oN hk (fun _ _ h => h), own_keeps h.oT hk (fun _ _ h => h), h.far, h.kp.trans hk (fun _ _ h => h)⟩
theorem DoAt.start (w : World) : DoAt w w none 0 0 [] none 0 0 none 0 0 [] [] :=
  ⟨World.ownsRow_nil _ _ _ _, OnesAt.nil _, World.ownsRow_nil _ _ _ _, World.ownsRow_nil _ _ _ _, fun q h => by simp [ob] at h, Keeps.refl _ _⟩
theorem DoAt.stepO {O' : Option Addr} {co' b : Nat} {x : ByteArray} (h : DoAt w2 wr O k co VO N kn cn T k8 ct tb ws) (hb : Whole wr b 9 #[.string x]) (hg : wr.grownBy w' (ob O)) (ho : w'.ownsRow w2.heap.size 22 1 (.slice O' (k + 1) co') (k + 1) (VO ++ [.slice (some ⟨b, 0, none⟩) 1 1])) (hat : ob O' = ob O ∨ ob O' = some wr.heap.size) :
    DoAt w2 w' O' (k + 1) co' (VO ++ [.slice (some ⟨b, 0, none⟩) 1 1]) N kn cn T k8 ct tb (ws ++ [x]) := by
  have K : Keeps (fun i => ob O = some i) wr w' := (Keeps.refl _ wr).grown hg (fun k hk => .inl hk)
  have hS : ∀ b x, Whole wr b 9 #[.string x] → ¬ (ob O = some b) := fun b x hW => by
    have := own_far h.oO hW (by decide)
    rwa [ownBlock_slice] at this
  have hT : ∀ q, ob T = some q → ob O ≠ some q := by have := own_apart h.oT h.oO (by decide); simpa only [ownBlock_slice] using this
  refine ⟨ho, (h.on.keeps K hS).snoc (hb.keeps K (hS _ _ hb)), own_keeps h.oN K (fun q hq e => ?_), own_keeps h.oT K (fun q hq => ?_), fun q hq e => ?_, h.kp.grown hg (fun i hi => .inr (h.oO.lt i (by rw [ownBlock_slice]; exact hi)).1)⟩
  · rw [ownBlock_slice] at hq
    exact h.far q e hq
  · rw [ownBlock_slice] at hq
    exact hT q hq
  · rcases hat with e2 | e2
    · exact h.far q (e2 ▸ hq) e
    · rw [e2] at hq
      injection hq with hq
      have := (h.oN.lt q (by rw [ownBlock_slice]; exact e)).2
      omega
theorem DoAt.stepN {N' : Option Addr} {cn' : Nat} (h : DoAt w2 wr O k co VO N kn cn T k8 ct tb ws) (hg : wr.grownBy w' (ob N)) (ho : w'.ownsRow w2.heap.size 22 1 (.slice N' (kn + 1) cn') (kn + 1) (List.replicate kn (.slice none 0 0) ++ [.slice none 0 0])) (hat : ob N' = ob N ∨ ob N' = some wr.heap.size) :
    DoAt w2 w' O k co VO N' (kn + 1) cn' T k8 ct tb ws := by
  have K : Keeps (fun i => ob N = some i) wr w' := (Keeps.refl _ wr).grown hg (fun k hk => .inl hk)
  have hS : ∀ b x, Whole wr b 9 #[.string x] → ¬ (ob N = some b) := fun b x hW => by
    have := own_far h.oN hW (by decide)
    rwa [ownBlock_slice] at this
  have hT : ∀ q, ob T = some q → ob N ≠ some q := by have := own_apart h.oT h.oN (by decide); simpa only [ownBlock_slice] using this
  refine ⟨own_keeps h.oO K (fun q hq => ?_), h.on.keeps K hS, by rw [List.replicate_succ']; exact ho, own_keeps h.oT K (fun q hq => ?_), fun q hq e => ?_, h.kp.grown hg (fun i hi => .inr (h.oN.lt i (by rw [ownBlock_slice]; exact hi)).1)⟩
  · rw [ownBlock_slice] at hq
    exact h.far q hq
  · rw [ownBlock_slice] at hq
    exact hT q hq
  · rcases hat with e2 | e2
    · exact h.far q hq (e2 ▸ e)
    · rw [e2] at e
      injection e with e
      have := (h.oO.lt q (by rw [ownBlock_slice]; exact hq)).2
      omega
theorem DoAt.stepT {T' : Option Addr} {k8' ct' : Nat} {tb' : List UInt8} (h : DoAt w2 wr O k co VO N kn cn T k8 ct tb ws) (hg : wr.grownBy w' (ob T)) (ho : w'.ownsRow w2.heap.size 5 1 (.slice T' k8' ct') k8' (Lib.byteCells tb')) :
    DoAt w2 w' O k co VO N kn cn T' k8' ct' tb' ws := by
  have K : Keeps (fun i => ob T = some i) wr w' := (Keeps.refl _ wr).grown hg (fun k hk => .inl hk)
  have hS : ∀ b x, Whole wr b 9 #[.string x] → ¬ (ob T = some b) := fun b x hW => by
    have := own_far h.oT hW (by decide)
    rwa [ownBlock_slice] at this
  have hO : ∀ q, ob O = some q → ob T ≠ some q := by have := own_apart h.oO h.oT (by decide); simpa only [ownBlock_slice] using this
  have hN : ∀ q, ob N = some q → ob T ≠ some q := by have := own_apart h.oN h.oT (by decide); simpa only [ownBlock_slice] using this
  refine ⟨own_keeps h.oO K (fun q hq => ?_), h.on.keeps K hS, own_keeps h.oN K (fun q hq => ?_), ho, h.far, h.kp.grown hg (fun i hi => .inr (h.oT.lt i (by rw [ownBlock_slice]; exact hi)).1)⟩
  · rw [ownBlock_slice] at hq
    exact hO q hq
  · rw [ownBlock_slice] at hq
    exact hN q hq
end
end Go.Proofs.YtkgjchfbbpabpaaGreat
