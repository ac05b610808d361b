/- spec.ARPairs. Conditions: sizes far below the machine's. -/
import Derived.Test.YtkgjchfbbpabpaaGreatSpP
namespace Go.Proofs.YtkgjchfbbpabpaaGreat
open Go.RowKit Go.Lib
set_option linter.unusedVariables false
/-- Keys and values while they are gathered. -/
structure KvAt (w0 W : World) (K : Option Addr) (nk ck : Nat) (V : Option Addr) (nv cv : Nat) (ks vs : List Value) : Prop where
  oK : W.ownsRow w0.heap.size 9 1 (.slice K nk ck) nk ks
  oV : W.ownsRow w0.heap.size 9 1 (.slice V nv cv) nv vs
  far : ∀ q, ob K = some q → ob V ≠ some q
  kp : Keeps (fun _ => False) w0 W
section
variable {w0 W W' : World} {K V : Option Addr} {nk ck nv cv : Nat} {ks vs : List Value}
theorem KvAt.start (w : World) : KvAt w w none 0 0 none 0 0 [] [] := ⟨World.ownsRow_nil _ _ _ _, World.ownsRow_nil _ _ _ _, fun q h => by simp [ob] at h, Keeps.refl _ _⟩
theorem KvAt.new (h : KvAt w0 W K nk ck V nv cv ks vs) (hk : Keeps (fun _ => False) W W') : KvAt w0 W' K nk ck V nv cv ks vs := ⟨own_keeps h.oK hk (fun _ _ h => h), own_keeps h.oV hk (fun _ _ h => h), h.far, h.kp.trans hk (fun _ _ h => h)⟩
theorem KvAt.stepK {K' : Option Addr} {ck' : Nat} {v : Value} (h : KvAt w0 W K nk ck V nv cv ks vs) (hg : W.grownBy W' (ob K)) (ho : W'.ownsRow w0.heap.size 9 1 (.slice K' (nk + 1) ck') (nk + 1) (ks ++ [v])) (hat : ob K' = ob K ∨ ob K' = some W.heap.size) : KvAt w0 W' K' (nk + 1) ck' V nv cv (ks ++ [v]) vs := by
  have Kp : Keeps (fun i => ob K = some i) W W' := (Keeps.refl _ W).grown hg (fun k hk => .inl hk)
  refine ⟨ho, own_keeps h.oV Kp (fun q hq e => ?_), fun q hq e => ?_, h.kp.grown hg (fun i hi => .inr (h.oK.lt i (by rw [ownBlock_slice]; exact hi)).1)⟩
  · rw [ownBlock_slice] at hq
    exact h.far q e hq
  · rcases hat with e2 | e2
    · exact h.far q (e2 ▸ hq) e
    · rw [e2] at hq
      injection hq with hq
      have := (h.oV.lt q (by rw [ownBlock_slice]; exact e)).2
      omega
theorem KvAt.stepV {V' : Option Addr} {cv' : Nat} {v : Value} (h : KvAt w0 W K nk ck V nv cv ks vs) (hg : W.grownBy W' (ob V)) (ho : W'.ownsRow w0.heap.size 9 1 (.slice V' (nv + 1) cv') (nv + 1) (vs ++ [v])) (hat : ob V' = ob V ∨ ob V' = some W.heap.size) : KvAt w0 W' K nk ck V' (nv + 1) cv' ks (vs ++ [v]) := by
  have Kp : Keeps (fun i => ob V = some i) W W' := (Keeps.refl _ W).grown hg (fun k hk => .inl hk)
  refine ⟨own_keeps h.oK Kp (fun q hq e => ?_), ho, fun q hq e => ?_, h.kp.grown hg (fun i hi => .inr (h.oV.lt i (by rw [ownBlock_slice]; exact hi)).1)⟩
  · rw [ownBlock_slice] at hq
    exact h.far q hq e
  · rcases hat with e2 | e2
    · exact h.far q hq (e2 ▸ e)
    · rw [e2] at e
      injection e with e
      have := (h.oK.lt q (by rw [ownBlock_slice]; exact hq)).2
      omega
end
theorem rdG {w w' : World} {row : Option Addr} {A : Option Addr} {size n : Nat} {xs : List Value} (hg : w.grownBy w' (ob row)) (h : Rd w size A n xs) (hr : ∀ z, ob A = some z → ob row ≠ some z) : Rd w' size A n xs :=
  h.keeps (S := fun i => ob row = some i) ((Keeps.refl _ w).grown hg (fun k hk => .inl hk)) (fun k hk => hr k hk)
def keysOf (L : List Pr) : List ByteArray := L.map Prod.fst
def valsOf (L : List Pr) : List ByteArray := L.map Prod.snd
theorem keys_step {L : List Pr} {k : Nat} {p : Pr} (h : L[k]? = some p) : (keysOf (L.take k)).map Value.string ++ [.string p.1] = (keysOf (L.take (k + 1))).map Value.string := by rw [List.take_add_one, h]; simp [keysOf]
theorem vals_step {L : List Pr} {k : Nat} {p : Pr} (h : L[k]? = some p) : (valsOf (L.take k)).map Value.string ++ [.string p.2] = (valsOf (L.take (k + 1))).map Value.string := by rw [List.take_add_one, h]; simp [valsOf]
def mapB (PP : List (List Pr)) : List UInt8 := offB (PP.map List.length) 0 ++ ((keysOf PP.flatten).map strB).flatten ++ ((valsOf PP.flatten).map strB).flatten

end Go.Proofs.YtkgjchfbbpabpaaGreat
