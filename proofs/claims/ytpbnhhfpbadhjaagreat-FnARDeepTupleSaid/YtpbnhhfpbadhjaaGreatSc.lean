/- A column of strings in memory: what it holds, what a step may change. No conditions but those that each theorem names. -/
import Derived.Test.YtpbnhhfpbadhjaaGreatStr
import Derived.Test.YtpbnhhfpbadhjaaGreatProg
namespace Go.Proofs.YtpbnhhfpbadhjaaGreat
open Go.RowKit Go.Lib

/-- The positions of texts that stand one behind the other, from s on. -/
def posCells : Nat → List (List UInt8) → List Value
  | _, [] => []
  | s, l :: r => .int .i64 (s : Int) :: .int .i64 ((s + l.length : Nat) : Int) :: posCells (s + l.length) r
theorem posCells_length : ∀ (s : Nat) (L : List (List UInt8)), (posCells s L).length = L.length * 2
  | _, [] => rfl
  | s, l :: r => by rw [posCells, List.length_cons, List.length_cons, posCells_length, List.length_cons]; omega
theorem posCells_snoc : ∀ (s : Nat) (L : List (List UInt8)) (l : List UInt8), posCells s (L ++ [l]) = posCells s L ++ [.int .i64 ((s + L.flatten.length : Nat) : Int), .int .i64 ((s + L.flatten.length + l.length : Nat) : Int)]
  | s, [], l => by simp [posCells]
  | s, a :: r, l => by
    rw [List.cons_append, posCells, posCells_snoc, posCells, List.flatten_cons, List.length_append]
    simp [Nat.add_assoc]
theorem posCells_get : ∀ (s : Nat) (L : List (List UInt8)) (i : Nat) (l : List UInt8), L[i]? = some l → (posCells s L)[i * 2]? = some (.int .i64 ((s + (L.take i).flatten.length : Nat) : Int)) ∧ (posCells s L)[i * 2 + 1]? = some (.int .i64 ((s + (L.take i).flatten.length + l.length : Nat) : Int))
  | s, [], i, l, h => by simp at h
  | s, a :: r, 0, l, h => by
    simp at h
    subst h
    simp [posCells]
  | s, a :: r, i + 1, l, h => by
    have h' : r[i]? = some l := by simpa using h
    obtain ⟨h1, h2⟩ := posCells_get (s + a.length) r i l h'
    rw [show (i + 1) * 2 = i * 2 + 1 + 1 by omega, posCells, List.getElem?_cons_succ, List.getElem?_cons_succ, h1, List.getElem?_cons_succ, List.getElem?_cons_succ, h2, List.take_succ_cons, List.flatten_cons, List.length_append]
    exact ⟨by rw [Nat.add_assoc], by rw [Nat.add_assoc s]⟩
theorem posCells_one (s : Nat) (L : List (List UInt8)) : ∀ u ∈ posCells s L, u.oneCell' = true := by
  induction L generalizing s with
  | nil => intro u hu; simp [posCells] at hu
  | cons l r ih =>
    intro u hu
    rw [posCells] at hu
    rcases List.mem_cons.1 hu with rfl | hu
    · rfl
    rcases List.mem_cons.1 hu with rfl | hu
    · rfl
    · exact ih _ u hu

/-- Rows of elements of different types lie in different blocks. -/
theorem own_apart {w : World} {b1 b2 n1 n2 s1 s2 : Nat} {e1 e2 : TypeId} {v1 v2 : Value} {xs1 xs2 : List Value} (h1 : w.ownsRow b1 e1 s1 v1 n1 xs1) (h2 : w.ownsRow b2 e2 s2 v2 n2 xs2) (hne : e1 ≠ e2) : ∀ k, v1.ownBlock = some k → v2.ownBlock ≠ some k := by
  intro k hk hk2
  rcases h1.2 with ⟨rfl, _⟩ | ⟨g, cap, cur, rfl, _, hh, _⟩
  · simp [Value.ownBlock] at hk
  · rcases h2.2 with ⟨rfl, _⟩ | ⟨g', cap', cur', rfl, _, hh', _⟩
    · simp [Value.ownBlock] at hk2
    · have e : g = k := by simpa [Value.ownBlock] using hk
      have e' : g' = k := by simpa [Value.ownBlock] using hk2
      subst e
      subst e'
      rw [hh] at hh'
      injection hh' with hh'
      injection hh' with _ ht
      exact hne ht

/-- A column of strings: its block, its row of bytes, its row of positions. -/
structure ColAt (w : World) (base g : Nat) (A : Option Addr) (c : Nat) (B : Option Addr) (d : Nat) (L : List (List UInt8)) : Prop where
  blk : Whole w g 59 #[.slice A L.flatten.length c, .slice B L.length d]
  buf : w.ownsRow base 5 1 (.slice A L.flatten.length c) L.flatten.length (Lib.byteCells L.flatten)
  pos : w.ownsRow base 238 2 (.slice B L.length d) L.length (posCells 0 L)
  lo : base ≤ g
/-- A step of a column of strings. -/
structure ColPut (w w' : World) (base g : Nat) (A B : Option Addr) (A' : Option Addr) (c' : Nat) (B' : Option Addr) (d' : Nat) (L : List (List UInt8)) : Prop where
  at' : ColAt w' base g A' c' B' d' L
  keeps : Keeps (fun k => k = g ∨ ob A = some k ∨ ob B = some k) w w'
  rowA : ob A' = ob A ∨ ∀ k, ob A' = some k → w.heap.size ≤ k
  rowB : ob B' = ob B ∨ ∀ k, ob B' = some k → w.heap.size ≤ k
theorem ColAt.keeps {w w' : World} {base g c d : Nat} {A B : Option Addr} {L : List (List UInt8)} {S : Nat → Prop} (h : ColAt w base g A c B d L) (hk : Keeps S w w') (h1 : ¬ S g) (h2 : ∀ k, ob A = some k → ¬ S k) (h3 : ∀ k, ob B = some k → ¬ S k) : ColAt w' base g A c B d L :=
  ⟨h.blk.keeps hk h1, own_keeps h.buf hk (by rw [ownBlock_slice]; exact h2), own_keeps h.pos hk (by rw [ownBlock_slice]; exact h3), h.lo⟩
theorem ColAt.new {w w' : World} {base g c d : Nat} {A B : Option Addr} {L : List (List UInt8)} (h : ColAt w base g A c B d L) (hk : Keeps (fun _ => False) w w') : ColAt w' base g A c B d L :=
  h.keeps hk (fun h => h) (fun _ _ h => h) (fun _ _ h => h)
theorem ColAt.rowsLo {w : World} {base g c d : Nat} {A B : Option Addr} {L : List (List UInt8)} (h : ColAt w base g A c B d L) : (∀ k, ob A = some k → base ≤ k ∧ k < w.heap.size) ∧ ∀ k, ob B = some k → base ≤ k ∧ k < w.heap.size := by
  have h1 := h.buf.lt
  have h2 := h.pos.lt
  rw [ownBlock_slice] at h1 h2
  exact ⟨h1, h2⟩
theorem ColPut.trans {w w1 w2 : World} {base g c1 d1 c2 d2 : Nat} {A B A1 B1 A2 B2 : Option Addr} {L1 L2 : List (List UInt8)} (h : ColPut w w1 base g A B A1 c1 B1 d1 L1) (k : ColPut w1 w2 base g A1 B1 A2 c2 B2 d2 L2) : ColPut w w2 base g A B A2 c2 B2 d2 L2 := by
  refine ⟨k.at', h.keeps.trans k.keeps ?_, ?_, ?_⟩
  · rintro i hi (rfl | hs | hs)
    · exact .inl rfl
    · rcases h.rowA with hr | hr
      · exact .inr (.inl (hr ▸ hs))
      · exact absurd (hr i hs) (by omega)
    · rcases h.rowB with hr | hr
      · exact .inr (.inr (hr ▸ hs))
      · exact absurd (hr i hs) (by omega)
  · rcases k.rowA with hr | hr
    · rw [hr]; exact h.rowA
    · exact .inr fun i hi => Nat.le_trans h.keeps.size (hr i hi)
  · rcases k.rowB with hr | hr
    · rw [hr]; exact h.rowB
    · exact .inr fun i hi => Nat.le_trans h.keeps.size (hr i hi)
theorem ColPut.refl {w : World} {base g c d : Nat} {A B : Option Addr} {L : List (List UInt8)} (h : ColAt w base g A c B d L) : ColPut w w base g A B A c B d L := ⟨h, Keeps.refl _ _, .inl rfl, .inl rfl⟩
theorem ColPut.behind {w0 w w1 : World} {base g c d : Nat} {A B A1 B1 : Option Addr} {L : List (List UInt8)} (h0 : Keeps (fun _ => False) w0 w) (h : ColPut w w1 base g A B A1 c B1 d L) : ColPut w0 w1 base g A B A1 c B1 d L :=
  ⟨h.at', (h0.mono (S' := fun k => k = g ∨ ob A = some k ∨ ob B = some k) (fun _ _ h => h.elim)).trans h.keeps (fun _ _ h => h), h.rowA.imp id fun h k hk => Nat.le_trans h0.size (h k hk), h.rowB.imp id fun h k hk => Nat.le_trans h0.size (h k hk)⟩
theorem ColPut.after {w w1 w2 : World} {base g c d : Nat} {A B A1 B1 : Option Addr} {L : List (List UInt8)} (h : ColPut w w1 base g A B A1 c B1 d L) (h0 : Keeps (fun _ => False) w1 w2) : ColPut w w2 base g A B A1 c B1 d L :=
  ⟨h.at'.new h0, h.keeps.trans h0 (fun _ _ h => h.elim), h.rowA, h.rowB⟩
/-- A new column. -/
theorem colNew (w : World) {base : Nat} (h : base ≤ w.heap.size) : ColAt (w.alloc (.cells #[.slice none 0 0, .slice none 0 0] 59)) base w.heap.size none 0 none 0 [] :=
  ⟨Whole.new w _ _, ⟨by simp [Lib.byteCells], .inl ⟨rfl, rfl⟩⟩, ⟨by simp [posCells], .inl ⟨rfl, rfl⟩⟩, h⟩
end Go.Proofs.YtpbnhhfpbadhjaaGreat
