/- Contracts of the buffer's Put methods: the bytes that each appends. Conditions: the buffer's block holds a row of the call's own; sizes far below the machine's. -/
import Derived.Test.YtmdmccjmmljbkaaGreatMem
import Derived.Test.YtmdmccjmmljbkaaGreatRows
import Derived.WalkSpells
import Derived.WalkLawsBesides
import Derived.Deep.RegionLaw
import Derived.Deep.DeepMust
namespace Go.Proofs.YtmdmccjmmljbkaaGreat
open Go.RowKit

/-- A buffer: its block, and the row of bytes that it owns. -/
structure BufAt (w : World) (base bb : Nat) (A : Option Addr) (c : Nat) (l : List UInt8) : Prop where
  blk : Whole w bb 47 #[.slice A l.length c]
  own : w.ownsRow base 5 1 (.slice A l.length c) l.length (Lib.byteCells l)
  lo : base ≤ bb

/-- What a Put does: the buffer holds the bytes d more; nothing but its block and its row has changed. -/
structure Put (w w' : World) (base bb : Nat) (A : Option Addr) (A' : Option Addr) (c' : Nat) (l : List UInt8) : Prop where
  at' : BufAt w' base bb A' c' l
  keeps : Keeps (fun k => k = bb ∨ ob A = some k) w w'
  row : ob A' = ob A ∨ ∀ k, ob A' = some k → w.heap.size ≤ k

theorem BufAt.far {w : World} {base bb : Nat} {A : Option Addr} {c : Nat} {l : List UInt8} (h : BufAt w base bb A c l) : ob A ≠ some bb := by
  have := own_far h.own h.blk (by decide)
  rwa [ownBlock_slice] at this
theorem BufAt.keeps {w w' : World} {base bb : Nat} {A : Option Addr} {c : Nat} {l : List UInt8} {S : Nat → Prop} (h : BufAt w base bb A c l) (hk : Keeps S w w') (h1 : ¬ S bb) (h2 : ∀ k, ob A = some k → ¬ S k) : BufAt w' base bb A c l :=
  ⟨h.blk.keeps hk h1, own_keeps h.own hk (by rw [ownBlock_slice]; exact h2), h.lo⟩
theorem BufAt.row_lo {w : World} {base bb : Nat} {A : Option Addr} {c : Nat} {l : List UInt8} (h : BufAt w base bb A c l) : ∀ k, ob A = some k → base ≤ k ∧ k < w.heap.size := by
  have := h.own.lt
  rwa [ownBlock_slice] at this
theorem Put.trans {w w1 w2 : World} {base bb : Nat} {A A1 A2 : Option Addr} {c1 c2 : Nat} {l1 l2 : List UInt8} (h : Put w w1 base bb A A1 c1 l1) (k : Put w1 w2 base bb A1 A2 c2 l2) : Put w w2 base bb A A2 c2 l2 := by
  refine ⟨k.at', h.keeps.trans k.keeps ?_, ?_⟩
  · rintro i hi (rfl | hs)
    · exact .inl rfl
    · rcases h.row with hr | hr
      · exact .inr (hr ▸ hs)
      · exact absurd (hr i hs) (by omega)
  · rcases k.row with hr | hr
    · rw [hr]; exact h.row
    · exact .inr fun i hi => Nat.le_trans h.keeps.size (hr i hi)

theorem Put.drewN {w w1 : World} {base bb : Nat} {A A1 : Option Addr} {c1 : Nat} {l1 : List UInt8} (h : Put w w1 base bb A A1 c1 l1) (n : Nat) : Put w (w1.drewN n) base bb A A1 c1 l1 :=
  ⟨⟨h.at'.blk, h.at'.own, h.at'.lo⟩, h.keeps.drewN n, h.row⟩
theorem Put.drew {w w1 : World} {base bb : Nat} {A A1 : Option Addr} {c1 : Nat} {l1 : List UInt8} (h : Put w w1 base bb A A1 c1 l1) : Put w w1.drew base bb A A1 c1 l1 :=
  ⟨⟨h.at'.blk, h.at'.own, h.at'.lo⟩, h.keeps.drew, h.row⟩
theorem Put.refl {w : World} {base bb : Nat} {A : Option Addr} {c : Nat} {l : List UInt8} (h : BufAt w base bb A c l) : Put w w base bb A A c l := ⟨h, Keeps.refl _ _, .inl rfl⟩
theorem Put.behind {w0 w w1 : World} {base bb : Nat} {A A1 : Option Addr} {c1 : Nat} {l1 : List UInt8} (h0 : Keeps (fun _ => False) w0 w) (h : Put w w1 base bb A A1 c1 l1) : Put w0 w1 base bb A A1 c1 l1 :=
  ⟨h.at', (h0.mono (S' := fun k => k = bb ∨ ob A = some k) (fun _ _ h => h.elim)).trans h.keeps (fun _ _ h => h), h.row.imp id fun h k hk => Nat.le_trans h0.size (h k hk)⟩
/-- Behind an append and the store of what it gave. -/
theorem put_of {w0 w w1 : World} {base bb m : Nat} {A A' : Option Addr} {c c' : Nat} {l d : List UInt8} (hm : d.length = m) (hB : BufAt w0 base bb A c l) (h0 : Keeps (fun _ => False) w0 w)
    (hown : w1.ownsRow base 5 1 (.slice A' (l.length + m) c') (l.length + m) (Lib.byteCells l ++ Lib.byteCells d)) (hg : w.grownBy w1 (ob A)) (hat : ob A' = ob A ∨ ob A' = some w.heap.size) :
    Put w0 (w1.setCell ⟨bb, 0, none⟩ (.slice A' (l.length + m) c')) base bb A A' c' (l ++ d) := by
  subst hm
  have hblk := (hB.blk.keeps h0 (fun h => h)).grown hg (Ne.symm hB.far)
  have hne : ob A' ≠ some bb := by
    have := own_far hown hblk (by decide)
    rwa [ownBlock_slice] at this
  have h1 : Keeps (fun k => k = bb ∨ ob A = some k) w0 w1 := (h0.mono (fun _ _ h => h.elim)).grown hg fun k hk => .inl (.inr hk)
  have h2 := h1.setCell (p := ⟨bb, 0, none⟩) (.inl (.inl rfl)) (.slice A' (l.length + d.length) c')
  refine ⟨⟨?_, ?_, hB.lo⟩, h2, ?_⟩
  · have := hblk.put 0 (.slice A' (l.length + d.length) c')
    rw [List.length_append]
    exact this
  · rw [List.length_append, Lib.byteCells_append]
    exact own_keeps hown (((Keeps.refl (fun k => k = bb) w1)).setCell (p := ⟨bb, 0, none⟩) (.inl rfl) _) (by rw [ownBlock_slice]; rintro k hk rfl; exact hne hk)
  · rcases hat with h | h
    · exact .inl h
    · refine .inr fun k hk => ?_
      rw [h] at hk
      injection hk with hk
      rw [← hk]; exact h0.size

/-- A new buffer. -/
theorem bufNew (w : World) {base : Nat} (h : base ≤ w.heap.size) : BufAt (w.alloc (.cells #[.slice none 0 0] 47)) base w.heap.size none 0 [] :=
  ⟨Whole.new w _ _, ⟨by simp [Lib.byteCells], .inl ⟨rfl, rfl⟩⟩, h⟩

theorem infoU8 : (Tryz.prog.info? 5).map (fun i => (i.zero, i.size, i.bytes)) = some (some (.int .u8 0), 1, 1) := by kernel_rfl


end Go.Proofs.YtmdmccjmmljbkaaGreat
