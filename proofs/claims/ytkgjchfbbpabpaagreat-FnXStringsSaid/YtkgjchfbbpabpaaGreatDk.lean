/- What the law on maps and the arrays of their keys gathers: rows of keys, rows of bytes. Conditions: those that each theorem names. -/
import Derived.Test.YtkgjchfbbpabpaaGreatSte
import Derived.Test.YtkgjchfbbpabpaaGreatMf
import Derived.Test.YtkgjchfbbpabpaaGreatArP
namespace Go.Proofs.YtkgjchfbbpabpaaGreat
open Go.RowKit Go.Lib
set_option linter.unusedVariables false
/-- A block of cells of this type. -/
def TBlk (w : World) (t : TypeId) (b : Nat) : Prop := ∃ cs tg, w.heap[b]? = some (.cells cs t tg)
theorem TBlk.keeps {w w' : World} {t : TypeId} {b : Nat} {S : Nat → Prop} (h : TBlk w t b) (hk : Keeps S w w') (hS : ¬ S b) : TBlk w' t b := by
  obtain ⟨cs, tg, e⟩ := h
  exact ⟨cs, tg, (hk.block b (Array.getElem?_eq_some_iff.1 e).1 hS).trans e⟩
theorem TBlk.lt {w : World} {t : TypeId} {b : Nat} (h : TBlk w t b) : b < w.heap.size := by
  obtain ⟨cs, tg, e⟩ := h
  exact (Array.getElem?_eq_some_iff.1 e).1
theorem own_tblk {w : World} {base n c s : Nat} {e : TypeId} {A : Option Addr} {xs : List Value} (h : w.ownsRow base e s (.slice A n c) n xs) : ∀ q, ob A = some q → TBlk w e q := by
  intro q hq
  rcases h.2 with ⟨hv, _⟩ | ⟨g, cap, cur, hv, _, hh, _⟩
  · injection hv with hA
    rw [hA] at hq
    cases hq
  · injection hv with hA
    rw [hA] at hq
    injection hq with hq
    have hq2 : g = q := hq
    subst hq2
    exact ⟨_, _, hh⟩
theorem own_ne {w : World} {base n c s b : Nat} {e t : TypeId} {A : Option Addr} {xs : List Value} (h : w.ownsRow base e s (.slice A n c) n xs) (hb : TBlk w t b) (hne : e ≠ t) : ob A ≠ some b := by
  intro hq
  obtain ⟨cs, tg, e1⟩ := own_tblk h b hq
  obtain ⟨cs2, tg2, e2⟩ := hb
  rw [e1] at e2
  injection e2 with e2
  injection e2 with _ e3
  exact hne e3
/-- Rows of texts, each in a block of texts. -/
def KeysAt (w : World) (VK : List Value) (KK : List (List ByteArray)) : Prop := VK.length = KK.length ∧ ∀ (i : Nat) (xs : List ByteArray), KK[i]? = some xs → ∃ (B : Option Addr) (d : Nat), VK[i]? = some (Value.slice B xs.length d) ∧ Rd w 1 B xs.length (xs.map Value.string) ∧ ∀ q, ob B = some q → TBlk w 9 q
/-- Rows of bytes, each in a block of bytes. -/
def BytesAt (w : World) (VV : List Value) (LB : List (List UInt8)) : Prop := VV.length = LB.length ∧ ∀ (i : Nat) (l : List UInt8), LB[i]? = some l → ∃ (b d : Nat), VV[i]? = some (Value.slice (some ⟨b, 0, none⟩) l.length d) ∧ Rd w 1 (some ⟨b, 0, none⟩) l.length (Lib.byteCells l) ∧ TBlk w 5 b
theorem KeysAt.nil (w : World) : KeysAt w [] [] := ⟨rfl, fun i x h => by simp at h⟩
theorem BytesAt.nil (w : World) : BytesAt w [] [] := ⟨rfl, fun i x h => by simp at h⟩
theorem KeysAt.keeps {w w' : World} {S : Nat → Prop} {VK : List Value} {KK : List (List ByteArray)} (h : KeysAt w VK KK) (hk : Keeps S w w') (hS : ∀ b, TBlk w 9 b → ¬ S b) : KeysAt w' VK KK := ⟨h.1, fun i x hx => by
  obtain ⟨B, d, h1, h2, h3⟩ := h.2 i x hx
  exact ⟨B, d, h1, h2.keeps hk (fun q hq => hS q (h3 q hq)), fun q hq => (h3 q hq).keeps hk (hS q (h3 q hq))⟩⟩
theorem BytesAt.keeps {w w' : World} {S : Nat → Prop} {VV : List Value} {LB : List (List UInt8)} (h : BytesAt w VV LB) (hk : Keeps S w w') (hS : ∀ b, TBlk w 5 b → ¬ S b) : BytesAt w' VV LB := ⟨h.1, fun i x hx => by
  obtain ⟨b, d, h1, h2, h3⟩ := h.2 i x hx
  exact ⟨b, d, h1, h2.keeps hk (fun q hq => by simp [ob] at hq; subst hq; exact hS _ h3), h3.keeps hk (hS _ h3)⟩⟩
theorem snoc_get {α : Type} {L : List α} {x y : α} {i : Nat} (h : (L ++ [x])[i]? = some y) : (i < L.length ∧ L[i]? = some y) ∨ (i = L.length ∧ y = x) := by
  rcases Nat.lt_or_ge i L.length with hi | hi
  · exact .inl ⟨hi, by rwa [List.getElem?_append_left hi] at h⟩
  · rw [List.getElem?_append_right hi] at h
    rcases Nat.eq_zero_or_pos (i - L.length) with h0 | h0
    · rw [h0] at h
      injection h with h
      exact .inr ⟨by omega, h.symm⟩
    · rw [List.getElem?_eq_none (by simp; omega)] at h
      cases h
theorem KeysAt.snoc {w : World} {VK : List Value} {KK : List (List ByteArray)} {B : Option Addr} {d : Nat} {xs : List ByteArray} (h : KeysAt w VK KK) (hR : Rd w 1 B xs.length (xs.map Value.string)) (hB : ∀ q, ob B = some q → TBlk w 9 q) : KeysAt w (VK ++ [.slice B xs.length d]) (KK ++ [xs]) := by
  refine ⟨by simp [h.1], fun i y hy => ?_⟩
  rcases snoc_get hy with ⟨hi, h1⟩ | ⟨hi, rfl⟩
  · obtain ⟨B', d', g1, g2⟩ := h.2 i y h1
    exact ⟨B', d', by rw [List.getElem?_append_left (by rw [h.1]; exact hi)]; exact g1, g2⟩
  · exact ⟨B, d, by rw [List.getElem?_append_right (by rw [h.1]; omega), h.1, hi, Nat.sub_self]; rfl, hR, hB⟩
theorem BytesAt.snoc {w : World} {VV : List Value} {LB : List (List UInt8)} {b d : Nat} {l : List UInt8} (h : BytesAt w VV LB) (hR : Rd w 1 (some ⟨b, 0, none⟩) l.length (Lib.byteCells l)) (hB : TBlk w 5 b) : BytesAt w (VV ++ [.slice (some ⟨b, 0, none⟩) l.length d]) (LB ++ [l]) := by
  refine ⟨by simp [h.1], fun i y hy => ?_⟩
  rcases snoc_get hy with ⟨hi, h1⟩ | ⟨hi, rfl⟩
  · obtain ⟨b', d', g1, g2⟩ := h.2 i y h1
    exact ⟨b', d', by rw [List.getElem?_append_left (by rw [h.1]; exact hi)]; exact g1, g2⟩
  · exact ⟨b, d, by rw [List.getElem?_append_right (by rw [h.1]; omega), h.1, hi, Nat.sub_self]; rfl, hR, hB⟩
theorem KeysAt.rows {w : World} {base n c : Nat} {A : Option Addr} {VK : List Value} {KK : List (List ByteArray)} (h : KeysAt w VK KK) (ho : w.ownsRow base 22 1 (.slice A n c) n VK) : RowsOf w A KK := fun i xs hx => by
  obtain ⟨L, hL, rfl⟩ : ∃ L, KK[i]? = some L ∧ L.map Value.string = xs := by
    rw [List.getElem?_map] at hx
    obtain ⟨L, h1, h2⟩ := Option.map_eq_some_iff.1 hx
    exact ⟨L, h1, h2⟩
  obtain ⟨B, d, h1, h2, _⟩ := h.2 i L hL
  have hn : 0 < n := by have h1' := ho.1; have := (List.getElem?_eq_some_iff.1 h1).1; omega
  obtain ⟨ad, e, hb, hc⟩ := (Rd.own ho).2 hn
  rw [List.length_map]
  exact ⟨ad, B, d, e, hb, hc i _ h1, h2⟩
theorem BytesAt.rows {w : World} {base n c : Nat} {A : Option Addr} {VV : List Value} {LB : List (List UInt8)} (h : BytesAt w VV LB) (ho : w.ownsRow base 26 1 (.slice A n c) n VV) : RowsV w A (LB.map Lib.byteCells) := fun i xs hx => by
  obtain ⟨l, hL, rfl⟩ : ∃ l, LB[i]? = some l ∧ Lib.byteCells l = xs := by
    rw [List.getElem?_map] at hx
    obtain ⟨L, h1, h2⟩ := Option.map_eq_some_iff.1 hx
    exact ⟨L, h1, h2⟩
  obtain ⟨b, d, h1, h2, _⟩ := h.2 i l hL
  have hn : 0 < n := by have h1' := ho.1; have := (List.getElem?_eq_some_iff.1 h1).1; omega
  obtain ⟨ad, e, hb, hc⟩ := (Rd.own ho).2 hn
  rw [Lib.byteCells_length]
  exact ⟨ad, some ⟨b, 0, none⟩, d, e, hb, hc i _ h1, h2⟩
/-- A row of keys and the rows of values, while they are gathered. -/
structure KbAt (w0 W : World) (b0 : Nat) (V0 : Option Addr) (K : Option Addr) (nk ck : Nat) (V : Option Addr) (nv cv : Nat) (ks VV : List Value) (LB : List (List UInt8)) : Prop where
  oK : W.ownsRow w0.heap.size 9 1 (.slice K nk ck) nk ks
  oV : W.ownsRow b0 26 1 (.slice V nv cv) nv VV
  bV : BytesAt W VV LB
  vr : ob V = ob V0 ∨ ∀ q, ob V = some q → w0.heap.size ≤ q
  kp : Keeps (fun i => ob V0 = some i) w0 W
section
variable {w0 W W' : World} {b0 : Nat} {V0 K V : Option Addr} {nk ck nv cv : Nat} {ks VV : List Value} {LB : List (List UInt8)}
theorem KbAt.new (h : KbAt w0 W b0 V0 K nk ck V nv cv ks VV LB) (hk : Keeps (fun _ => False) W W') : KbAt w0 W' b0 V0 K nk ck V nv cv ks VV LB :=
  ⟨own_keeps h.oK hk (fun _ _ h => h), own_keeps h.oV hk (fun _ _ h => h), h.bV.keeps hk (fun _ _ h => h), h.vr, h.kp.trans hk (fun _ _ h => h.elim)⟩
theorem KbAt.stepK {K' : Option Addr} {ck' : Nat} {v : Value} (h : KbAt w0 W b0 V0 K nk ck V nv cv ks VV LB) (hg : W.grownBy W' (ob K)) (ho : W'.ownsRow w0.heap.size 9 1 (.slice K' (nk + 1) ck') (nk + 1) (ks ++ [v])) : KbAt w0 W' b0 V0 K' (nk + 1) ck' V nv cv (ks ++ [v]) VV LB := by
  have Kp : Keeps (fun i => ob K = some i) W W' := (Keeps.refl _ W).grown hg (fun k hk => .inl hk)
  refine ⟨ho, own_keeps h.oV Kp (fun q hq => ?_), h.bV.keeps Kp (fun b hb => own_ne h.oK hb (by decide)), h.vr, h.kp.grown hg (fun i hi => .inr (h.oK.lt i (by rw [ownBlock_slice]; exact hi)).1)⟩
  rw [ownBlock_slice] at hq
  exact own_ne h.oK (own_tblk h.oV q hq) (by decide)
theorem KbAt.stepV {V' : Option Addr} {cv' b d : Nat} {l : List UInt8} (h : KbAt w0 W b0 V0 K nk ck V nv cv ks VV LB) (hR : Rd W 1 (some ⟨b, 0, none⟩) l.length (Lib.byteCells l)) (hB : TBlk W 5 b) (hg : W.grownBy W' (ob V)) (ho : W'.ownsRow b0 26 1 (.slice V' (nv + 1) cv') (nv + 1) (VV ++ [.slice (some ⟨b, 0, none⟩) l.length d])) (hat : ob V' = ob V ∨ ob V' = some W.heap.size) : KbAt w0 W' b0 V0 K nk ck V' (nv + 1) cv' ks (VV ++ [.slice (some ⟨b, 0, none⟩) l.length d]) (LB ++ [l]) := by
  have Kp : Keeps (fun i => ob V = some i) W W' := (Keeps.refl _ W).grown hg (fun k hk => .inl hk)
  have hU : ∀ b, TBlk W 5 b → ¬ (ob V = some b) := fun b hb => own_ne h.oV hb (by decide)
  refine ⟨own_keeps h.oK Kp (fun q hq => ?_), ho, (h.bV.keeps Kp hU).snoc (hR.keeps Kp (fun q hq => by simp [ob] at hq; subst hq; exact hU _ hB)) (hB.keeps Kp (hU _ hB)), ?_, ?_⟩
  · rw [ownBlock_slice] at hq
    exact own_ne h.oV (own_tblk h.oK q hq) (by decide)
  · rcases hat with e | e
    · rw [e]; exact h.vr
    · refine .inr fun q hq => ?_
      rw [e] at hq
      injection hq with hq
      have := h.kp.size
      omega
  · refine h.kp.grown hg (fun i hi => ?_)
    rcases h.vr with e | e
    · exact .inl (e ▸ hi)
    · exact .inr (e i hi)
end
/-- What a conversion of a text to bytes makes. -/
theorem conv_bytes (y : ByteArray) : ∃ (cp : World → Nat) (cw : World → World), ∀ W, (convert 9 26 (.string y)).run Tryz.prog W = .ok (.slice (some ⟨W.heap.size, 0, none⟩) y.size (cp W)) (cw W) ∧ Keeps (fun _ => False) W (cw W) ∧ (cw W).heap.size = W.heap.size + 1 ∧ Rd (cw W) 1 (some ⟨W.heap.size, 0, none⟩) (sl y).length (Lib.byteCells (sl y)) ∧ TBlk (cw W) 5 W.heap.size := by
  refine ⟨fun W => grownCap W y.size 0 5, fun W => W.drew.alloc (.cells (bytesRow y (grownCap W y.size 0 5)) 5 ((bytesRow y (grownCap W y.size 0 5)).size, (bytesRow y (grownCap W y.size 0 5)).size + 1)), fun W => ⟨?_, ((Keeps.refl (fun _ => False) W).drew).alloc _, by simp, ?_, ?_⟩⟩
  · exact run_bytes_of_string (P := Tryz.prog) W 9 26 5 y Tryz.underlying9 Tryz.underlying26 Tryz.underlying5
  · refine ⟨by simp [Lib.byteCells], fun _ => ⟨_, rfl, by simp, fun j u hu => ?_⟩⟩
    rw [add_lit', Nat.zero_add]
    refine (cell_of_row _ W.heap.size j _ _ _ (heap_alloc_new W.drew _)).trans ?_
    have hj : j < y.data.size := by
      have h := List.getElem?_eq_some_iff.1 hu
      obtain ⟨h, _⟩ := h
      simpa [Lib.byteCells, sl] using h
    rw [bytesRow, Array.getElem?_append_left (by simpa using hj)]
    rw [← hu]
    simp [Lib.byteCells, sl]
  · exact ⟨_, _, heap_alloc_new W.drew _⟩
end Go.Proofs.YtkgjchfbbpabpaaGreat
