/- Words for memory that the walks share: what a step may change, a block known whole, a slice that reads as a list, append onto a row of the call's own. No conditions but those that each theorem names. -/
import Derived.Maps.AppendAt
import Derived.Deep.AppendLies
import Derived.RegionTactic
import Derived.OwnWalk
import Derived.Below
import Derived.Deep.Draws
import Derived.Lib.UnsafeStr
import Derived.Lib.AppendStr
import Derived.Lib.VarintMem
import Derived.Lib.Hide
import Derived.Laws.IdiomStrings
import Derived.WalkKit
namespace Go.Proofs.YtmdmccjmmljbkaaGreat
open Go.RowKit

theorem blk_add (a : Addr) (n : Nat) : (a.add n).block = a.block := by unfold Addr.add; split <;> rfl
theorem add_add' (a : Addr) (i j : Nat) : (a.add i).add j = a.add (i + j) := by
  unfold Addr.add
  by_cases hi : i = 0 <;> by_cases hj : j = 0 <;> simp [hi, hj, Nat.add_assoc]
theorem add_lit' (g o j : Nat) : (⟨g, o, none⟩ : Addr).add j = ⟨g, o + j, none⟩ := by unfold Addr.add; split <;> simp_all

/-- From w to w' nothing but the blocks of S (and new ones) has changed. -/
structure Keeps (S : Nat → Prop) (w w' : World) : Prop where
  os : w'.os = w.os
  tape : w'.tape = w.tape
  output : w'.output = w.output
  size : w.heap.size ≤ w'.heap.size
  block : ∀ k, k < w.heap.size → ¬ S k → w'.heap[k]? = w.heap[k]?

section
variable {S S' : Nat → Prop} {w w' a b c : World}
theorem Keeps.refl (S : Nat → Prop) (w : World) : Keeps S w w := ⟨rfl, rfl, rfl, Nat.le_refl _, fun _ _ _ => rfl⟩
theorem Keeps.mono (h : Keeps S w w') (hS : ∀ k, k < w.heap.size → S k → S' k) : Keeps S' w w' :=
  ⟨h.os, h.tape, h.output, h.size, fun k hk hn => h.block k hk fun hs => hn (hS k hk hs)⟩
theorem Keeps.trans (h : Keeps S a b) (k : Keeps S' b c) (hS : ∀ i, i < a.heap.size → S' i → S i) : Keeps S a c :=
  ⟨k.os.trans h.os, k.tape.trans h.tape, k.output.trans h.output, Nat.le_trans h.size k.size, fun i hi hn =>
    (k.block i (Nat.lt_of_lt_of_le hi h.size) fun hs => hn (hS i hi hs)).trans (h.block i hi hn)⟩
theorem Keeps.drew (h : Keeps S a w) : Keeps S a w.drew := ⟨h.os, h.tape, h.output, h.size, h.block⟩
theorem Keeps.drewN (h : Keeps S a w) (n : Nat) : Keeps S a (w.drewN n) := ⟨h.os, h.tape, h.output, h.size, h.block⟩
theorem Keeps.alloc (h : Keeps S a w) (o : Obj) : Keeps S a (w.alloc o) :=
  ⟨h.os, h.tape, h.output, Nat.le_trans h.size (by simp), fun k hk hn => (Below.heap_alloc w o k (Nat.lt_of_lt_of_le hk h.size)).trans (h.block k hk hn)⟩
theorem Keeps.setCell (h : Keeps S a w) {p : Addr} (hp : S p.block ∨ a.heap.size ≤ p.block) (u : Value) : Keeps S a (w.setCell p u) :=
  ⟨h.os, h.tape, h.output, by simpa [World.setCell] using h.size, fun k hk hn => (Below.heap_setCell w p u k (by
    rintro rfl
    rcases hp with hp | hp
    · exact hn hp
    · omega)).trans (h.block k hk hn)⟩
theorem Keeps.grown {row : Option Nat} (h : Keeps S a w) (hg : w.grownBy w' row) (hr : ∀ k, row = some k → S k ∨ a.heap.size ≤ k) : Keeps S a w' :=
  ⟨hg.os.trans h.os, hg.tape.trans h.tape, hg.output.trans h.output, Nat.le_trans h.size hg.size, fun k hk hn =>
    (hg.block k (Nat.lt_of_lt_of_le hk h.size) fun e => by
      rcases hr k e.symm with hs | hs
      · exact hn hs
      · omega).trans (h.block k hk hn)⟩
theorem Keeps.of_below (h : Below w.heap.size w w') (S : Nat → Prop) : Keeps S w w' := ⟨h.os, h.tape, h.output, h.size, fun k hk _ => h.block k hk⟩
theorem Keeps.below {B : Nat} (h : Keeps S w w') (hB : B ≤ w.heap.size) (hS : ∀ k, S k → B ≤ k) : Below B w w' :=
  ⟨h.os, h.tape, h.output, h.size, fun k hk => h.block k (by omega) fun hs => by have := hS k hs; omega⟩
theorem Keeps.cell (h : Keeps S w w') {p : Addr} (hp : p.block < w.heap.size) (hn : ¬ S p.block) : w'.cell? p = w.cell? p := World.cell?_of_block (h.block p.block hp hn)
theorem Keeps.frozen (h : Keeps S w w') {p : Addr} (hp : p.block < w.heap.size) (hn : ¬ S p.block) : w'.frozen? p = w.frozen? p := World.frozen?_of_block (h.block p.block hp hn)
end

/-- The block of a slice's address. -/
def ob (A : Option Addr) : Option Nat := A.map (·.block)
theorem ownBlock_slice (A : Option Addr) (n c : Nat) : (Value.slice A n c).ownBlock = ob A := by cases A <;> rfl

/-- Block g is just these cells. -/
def Whole (w : World) (g : Nat) (t : TypeId) (cs : Array Value) : Prop := w.heap[g]? = some (.cells cs t (0, 0))
section
variable {w w' : World} {g : Nat} {t : TypeId} {cs : Array Value} {S : Nat → Prop}
theorem Whole.lt (h : Whole w g t cs) : g < w.heap.size := by
  rcases Nat.lt_or_ge g w.heap.size with hlt | hge
  · exact hlt
  · unfold Whole at h; rw [Array.getElem?_eq_none hge] at h; cases h
theorem Whole.cell (h : Whole w g t cs) (i : Nat) : w.cell? ⟨g, i, none⟩ = cs[i]? := cell_of_row w g i cs t (0, 0) h
theorem Whole.frozen (h : Whole w g t cs) (i : Nat) : w.frozen? ⟨g, i, none⟩ = false := by
  unfold Whole at h
  simp [World.frozen?, h]
theorem Whole.new (w : World) (t : TypeId) (cs : Array Value) : Whole (w.alloc (.cells cs t)) w.heap.size t cs := heap_alloc_new w _
theorem Whole.drew (h : Whole w g t cs) : Whole w.drew g t cs := h
theorem Whole.drewN (h : Whole w g t cs) (n : Nat) : Whole (w.drewN n) g t cs := h
theorem Whole.alloc (h : Whole w g t cs) (o : Obj) : Whole (w.alloc o) g t cs := (Below.heap_alloc w o g h.lt).trans h
theorem Whole.put (h : Whole w g t cs) (i : Nat) (u : Value) : Whole (w.setCell ⟨g, i, none⟩ u) g t (cs.setIfInBounds i u) := by
  unfold Whole at h ⊢
  simp [World.setCell, Array.getElem?_modify, h]
theorem Whole.far (h : Whole w g t cs) {p : Addr} (hp : g ≠ p.block) (u : Value) : Whole (w.setCell p u) g t cs := (Below.heap_setCell w p u g hp).trans h
theorem Whole.keeps (h : Whole w g t cs) (hk : Keeps S w w') (hS : ¬ S g) : Whole w' g t cs := (hk.block g h.lt hS).trans h
theorem Whole.grown {row : Option Nat} (h : Whole w g t cs) (hb : w.grownBy w' row) (hg : some g ≠ row) : Whole w' g t cs := (hb.block g h.lt hg).trans h
theorem Whole.differ {g' : Nat} {t' : TypeId} {cs' : Array Value} (h : Whole w g t cs) (h' : Whole w g' t' cs') (hne : t ≠ t') : g ≠ g' := by
  rintro rfl
  unfold Whole at h h'
  rw [h] at h'
  injection h' with h'
  injection h' with _ ht
  exact hne ht
theorem own_far {base : Nat} {e : TypeId} {size n : Nat} {v : Value} {xs : List Value} (h : w.ownsRow base e size v n xs) (hg : Whole w g t cs) (hne : e ≠ t) : v.ownBlock ≠ some g := by
  rcases h.2 with ⟨rfl, _⟩ | ⟨g', cap, cur, rfl, _, hh, _⟩
  · simp [Value.ownBlock]
  · intro he
    have : g' = g := by simpa [Value.ownBlock] using he
    subst this
    exact Whole.differ (t := e) hh hg hne rfl
theorem own_keeps {base : Nat} {e : TypeId} {size n : Nat} {v : Value} {xs : List Value} (h : w.ownsRow base e size v n xs) (hk : Keeps S w w') (hS : ∀ k, v.ownBlock = some k → ¬ S k) : w'.ownsRow base e size v n xs := by
  refine ⟨h.1, ?_⟩
  rcases h.2 with hn | ⟨g', cap, cur, rfl, hb, hh, rest⟩
  · exact .inl hn
  · refine .inr ⟨g', cap, cur, rfl, hb, ?_, rest⟩
    rw [hk.block g' (Array.getElem?_eq_some_iff.1 hh).1 (hS _ rfl)]
    exact hh
end

/-- The slice value '.slice A n _' reads as the cells xs (nothing is asked of an empty one). -/
def Rd (w : World) (size : Nat) (A : Option Addr) (n : Nat) (xs : List Value) : Prop :=
  xs.length = n * size ∧ (0 < n → ∃ ad, A = some ad ∧ ad.block < w.heap.size ∧ ∀ j u, xs[j]? = some u → w.cell? (ad.add j) = some u)
section
variable {w w' : World} {S : Nat → Prop} {size n : Nat} {A : Option Addr} {xs : List Value}
theorem Rd.none' : Rd w size A 0 [] := ⟨by simp, fun h => absurd h (by omega)⟩
theorem Rd.own {base : Nat} {e : TypeId} {c : Nat} (h : w.ownsRow base e size (.slice A n c) n xs) : Rd w size A n xs := by
  refine ⟨h.1, fun hn => ?_⟩
  obtain ⟨g, cap, hv, _, hlt⟩ := h.form hn
  have hA : A = some ⟨g, 0, none⟩ := by injection hv
  subst hA
  exact ⟨_, rfl, hlt, h.cells (g := g) rfl⟩
theorem Rd.keeps (h : Rd w size A n xs) (hk : Keeps S w w') (hS : ∀ k, ob A = some k → ¬ S k) : Rd w' size A n xs :=
  ⟨h.1, fun hn => by
    obtain ⟨ad, rfl, hb, hc⟩ := h.2 hn
    exact ⟨ad, rfl, Nat.lt_of_lt_of_le hb hk.size, fun j u hu => (hk.cell (by rw [blk_add]; exact hb) (by rw [blk_add]; exact hS _ rfl)).trans (hc j u hu)⟩⟩
theorem Rd.drewN (h : Rd w size A n xs) (k : Nat) : Rd (w.drewN k) size A n xs := h
theorem Rd.drew (h : Rd w size A n xs) : Rd w.drew size A n xs := h
theorem Rd.alloc (h : Rd w size A n xs) (o : Obj) : Rd (w.alloc o) size A n xs := h.keeps (S := fun _ => False) ((Keeps.refl _ _).alloc o) (fun _ _ h => h)
theorem Rd.at' {k : Nat} (h : Rd w 1 A n xs) (hk : k < n) : ∃ ad u, A = some ad ∧ ad.block < w.heap.size ∧ xs[k]? = some u ∧ w.cell? (ad.add k) = some u := by
  obtain ⟨ad, e, hb, hc⟩ := h.2 (by omega)
  have hl : k < xs.length := by have := h.1; omega
  exact ⟨ad, xs[k], e, hb, List.getElem?_eq_getElem hl, hc k _ (List.getElem?_eq_getElem hl)⟩
/-- A part of a slice: from lo to hi, at the address that is lo elements further. -/
theorem Rd.part {ad : Addr} {lo hi : Nat} (h : Rd w size (some ad) n xs) (h1 : lo ≤ hi) (h2 : hi ≤ n) :
    Rd w size (some (ad.add (lo * size))) (hi - lo) ((xs.drop (lo * size)).take ((hi - lo) * size)) := by
  refine ⟨?_, fun hn => ?_⟩
  · rw [List.length_take, List.length_drop, h.1]
    have : (hi - lo) * size ≤ n * size - lo * size := by rw [← Nat.sub_mul]; exact Nat.mul_le_mul_right _ (by omega)
    omega
  · obtain ⟨ad', e, hb, hc⟩ := h.2 (by omega)
    injection e with e
    subst e
    refine ⟨_, rfl, by rw [blk_add]; exact hb, fun j u hu => ?_⟩
    rw [add_add']
    refine hc _ u ?_
    rw [List.getElem?_take] at hu
    split at hu
    · rw [← hu, List.getElem?_drop]
    · cases hu
end

section
variable {P : Program} (w : World)
/-- append onto a row of the call's own, the source nil, empty or not. -/
theorem run_append_rd (base : Nat) (t ty e : TypeId) (i : TypeInfo) (z : Value) (size bytes : Nat) (ht : P.underlying t = some (.slice e)) (hi : P.info? e = some i) (hz : i.zero = some z)
    (hsize : i.size = size) (hby : i.bytes = bytes) (hzs : z.cells.size = size) (hsz : 0 < size)
    (A : Option Addr) (c n : Nat) (xs : List Value) (hown : w.ownsRow base e size (.slice A n c) n xs)
    (A2 : Option Addr) (m c2 : Nat) (news : List Value) (hr : Rd w size A2 m news) (h1 : ∀ u ∈ news, u.oneCell' = true)
    (h63 : n + m ≤ maxLen) (hbytes : (n + m) * bytes ≤ 140737488355328) (hbase : base ≤ w.heap.size) :
    ∃ A' c' w', (Builtin.append_ #[t, t] ty #[.slice A n c, .slice A2 m c2]).run P w = .ok (.slice A' (n + m) c') w' ∧ w'.ownsRow base e size (.slice A' (n + m) c') (n + m) (xs ++ news) ∧
      w.grownBy w' (ob A) ∧ (ob A' = ob A ∨ ob A' = some w.heap.size) := by
  have key : ∃ v' w', (Builtin.append_ #[t, t] ty #[.slice A n c, .slice A2 m c2]).run P w = .ok v' w' ∧ w'.ownsRow base e size v' (n + m) (xs ++ news) ∧
      w.grownBy w' (ob A) ∧ (v'.ownBlock = ob A ∨ v'.ownBlock = some w.heap.size) := by
    rcases A2 with _ | ad
    · have hm : m = 0 := by
        rcases Nat.eq_zero_or_pos m with h0 | h0
        · exact h0
        · obtain ⟨ad, h, _⟩ := hr.2 h0
          cases h
      subst hm
      have hn : news = [] := List.eq_nil_of_length_eq_zero (by simpa using hr.1)
      subst hn
      refine ⟨.slice A n c, w, ?_, by simpa using hown, World.grownBy.refl w _, .inl (ownBlock_slice _ _ _)⟩
      rcases hown.2 with ⟨h, rfl⟩ | ⟨g, cap, cur, h, _, _, hnc, _⟩
      · injection h with h1 h2 h3
        subst h1 h3
        simp [Builtin.append_, run_underlying ht, sizeOf, typeInfo, hi, Builtin.lenOf, Builtin.firstCells]
      · injection h with h1 h2 h3
        subst h1 h3
        simp [Builtin.append_, run_underlying ht, sizeOf, typeInfo, hi, Builtin.lenOf, Builtin.firstCells, hnc, storeCells]
    · have hcells : ∀ j u, news[j]? = some u → w.cell? (ad.add j) = some u := by
        intro j u hu
        rcases Nat.eq_zero_or_pos m with h0 | h0
        · subst h0
          have hn : news = [] := List.eq_nil_of_length_eq_zero (by simpa using hr.1)
          subst hn
          simp at hu
        · obtain ⟨ad', h, _, hc⟩ := hr.2 h0
          injection h with h
          subst h
          exact hc j u hu
      obtain ⟨v', w', hrun, h2, h3, _, h5⟩ := run_append_own_at (P := P) w base t ty e i z size bytes ht hi hz hsize hby hzs hsz (.slice A n c) n xs hown ad m c2 news hr.1 hcells h1 h63 hbytes hbase
      rw [ownBlock_slice] at h3 h5
      exact ⟨v', w', hrun, h2, h3, h5⟩
  obtain ⟨v', w', hrun, h2, h3, h4⟩ := key
  have hv : ∃ A' c', v' = .slice A' (n + m) c' := by
    rcases h2.2 with ⟨rfl, h0⟩ | ⟨g, cap, cur, rfl, _⟩
    · exact ⟨none, 0, by rw [h0]⟩
    · exact ⟨_, _, rfl⟩
  obtain ⟨A', c', rfl⟩ := hv
  rw [ownBlock_slice] at h4
  exact ⟨A', c', w', hrun, h2, h3, h4⟩

theorem wp_append_rd {o : Oper} {a : Act} {K : Act → World → Prop} {Q : Exit → Act → World → Prop} (s x : Operand) (t : TypeId)
    (ho : o.op = .call { callee := .builtin .append, args := #[s, x], argTypes := #[t, t] })
    (base : Nat) (e : TypeId) (i : TypeInfo) (z : Value) (size bytes : Nat) (ht : P.underlying t = some (.slice e)) (hi : P.info? e = some i) (hz : i.zero = some z)
    (hsize : i.size = size) (hby : i.bytes = bytes) (hzs : z.cells.size = size) (hsz : 0 < size)
    (A : Option Addr) (c n : Nat) (xs : List Value) (hs : a.eval s = .slice A n c) (hown : w.ownsRow base e size (.slice A n c) n xs)
    (A2 : Option Addr) (m c2 : Nat) (news : List Value) (hx : a.eval x = .slice A2 m c2) (hr : Rd w size A2 m news) (h1 : ∀ u ∈ news, u.oneCell' = true)
    (h63 : n + m ≤ maxLen) (hbytes : (n + m) * bytes ≤ 140737488355328) (hbase : base ≤ w.heap.size)
    (h : ∀ A' c' w', w'.ownsRow base e size (.slice A' (n + m) c') (n + m) (xs ++ news) → w.grownBy w' (ob A) → (ob A' = ob A ∨ ob A' = some w.heap.size) → K (a.put o.dst (.slice A' (n + m) c')) w') : o.wp P a w K Q := by
  obtain ⟨A', c', w', hrun, h2, h3, h4⟩ := run_append_rd (P := P) w base t o.type e i z size bytes ht hi hz hsize hby hzs hsz A c n xs hown A2 m c2 news hr h1 h63 hbytes hbase
  unfold Oper.wp execOp
  simp only [ho, resolve, invoke, builtin, Sem.run_bind, Sem.run_pure, Result.andThen_ok, List.map_toArray, List.map_cons, List.map_nil, hs, hx, hrun]
  exact h A' c' w' h2 h3 h4

theorem wpList_append_rd {ops : Array Oper} {rest : List Oper} {o : Oper} {a : Act} {Q : Exit → Act → World → Prop} (hgd : o.guard = none) (s x : Operand) (t : TypeId)
    (ho : o.op = .call { callee := .builtin .append, args := #[s, x], argTypes := #[t, t] })
    (base : Nat) (e : TypeId) (i : TypeInfo) (z : Value) (size bytes : Nat) (ht : P.underlying t = some (.slice e)) (hi : P.info? e = some i) (hz : i.zero = some z)
    (hsize : i.size = size) (hby : i.bytes = bytes) (hzs : z.cells.size = size) (hsz : 0 < size)
    (A : Option Addr) (c n : Nat) (xs : List Value) (hs : a.eval s = .slice A n c) (hown : w.ownsRow base e size (.slice A n c) n xs)
    (A2 : Option Addr) (m c2 : Nat) (news : List Value) (hx : a.eval x = .slice A2 m c2) (hr : Rd w size A2 m news) (h1 : ∀ u ∈ news, u.oneCell' = true)
    (h63 : n + m ≤ maxLen) (hbytes : (n + m) * bytes ≤ 140737488355328) (hbase : base ≤ w.heap.size)
    (h : ∀ A' c' w', w'.ownsRow base e size (.slice A' (n + m) c') (n + m) (xs ++ news) → w.grownBy w' (ob A) → (ob A' = ob A ∨ ob A' = some w.heap.size) → wpList P ops Q rest (a.put o.dst (.slice A' (n + m) c')) w') : wpList P ops Q (o :: rest) a w :=
  wpList_plain hgd fun _ hK => wp_append_rd w s x t ho base e i z size bytes ht hi hz hsize hby hzs hsz A c n xs hs hown A2 m c2 news hx hr h1 h63 hbytes hbase fun A' c' w' h2 h3 h4 => hK _ _ (h A' c' w' h2 h3 h4)

theorem step_append_rd {ops : Array Oper} {o : Oper} {a : Act} {K : Act → World → Prop} {Q : Exit → Act → World → Prop} {E : Prop} (hgd : o.guard = none) (s x : Operand) (t : TypeId)
    (ho : o.op = .call { callee := .builtin .append, args := #[s, x], argTypes := #[t, t] })
    (base : Nat) (e : TypeId) (i : TypeInfo) (z : Value) (size bytes : Nat) (ht : P.underlying t = some (.slice e)) (hi : P.info? e = some i) (hz : i.zero = some z)
    (hsize : i.size = size) (hby : i.bytes = bytes) (hzs : z.cells.size = size) (hsz : 0 < size)
    (A : Option Addr) (c n : Nat) (xs : List Value) (hs : a.eval s = .slice A n c) (hown : w.ownsRow base e size (.slice A n c) n xs)
    (A2 : Option Addr) (m c2 : Nat) (news : List Value) (hx : a.eval x = .slice A2 m c2) (hr : Rd w size A2 m news) (h1 : ∀ u ∈ news, u.oneCell' = true)
    (h63 : n + m ≤ maxLen) (hbytes : (n + m) * bytes ≤ 140737488355328) (hbase : base ≤ w.heap.size)
    (h : ∀ A' c' w', w'.ownsRow base e size (.slice A' (n + m) c') (n + m) (xs ++ news) → w.grownBy w' (ob A) → (ob A' = ob A ∨ ob A' = some w.heap.size) → K (a.put o.dst (.slice A' (n + m) c')) w') :
    if Region.wanted o (yielded ops a.tmps) = true then Oper.wp P o a w K Q else E := by
  have hw : Region.wanted o (yielded ops a.tmps) = true := by simp [Region.wanted, hgd]
  rw [if_pos hw]
  exact wp_append_rd w s x t ho base e i z size bytes ht hi hz hsize hby hzs hsz A c n xs hs hown A2 m c2 news hx hr h1 h63 hbytes hbase h
end

/-- A string of a slice of bytes. -/
theorem run_str_rd {P : Program} {w : World} {src dst e : TypeId} (hs : P.underlying src = some (.slice e)) (he : P.underlying e = some (.int .u8)) (hd : P.underlying dst = some .string) {A : Option Addr} {n c : Nat} {l : List UInt8}
    (h : Rd w 1 A n (Lib.byteCells l)) : (convert src dst (.slice A n c)).run P w = .ok (.string ⟨l.toArray⟩) w := by
  have hn : l.length = n := by have := h.1; rw [Lib.byteCells_length] at this; omega
  subst hn
  rcases Nat.eq_zero_or_pos l.length with h0 | h0
  · have hl : l = [] := List.eq_nil_of_length_eq_zero h0
    subst hl
    rw [run_convert_bytes_string w src dst e _ _ c hs he hd]
    cases A <;> simp [Conv.bytesToString, loadCells]
    all_goals rfl
  · obtain ⟨ad, rfl, _, hc⟩ := h.2 h0
    refine run_convert_bytes_back w src dst e ad c l hs he hd fun j hj => hc j _ ?_
    simp [Lib.byteCells, List.getElem?_eq_getElem hj]
theorem byteCells_one (l : List UInt8) : ∀ u ∈ Lib.byteCells l, u.oneCell' = true := by
  intro u hu
  simp only [Lib.byteCells, List.mem_map] at hu
  obtain ⟨b, _, rfl⟩ := hu
  rfl
end Go.Proofs.YtmdmccjmmljbkaaGreat
