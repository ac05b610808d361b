/- Decoding a column of strings: the state of the loop, and what each of its steps does to it. Conditions: the column, the reader and its bytes lie apart. -/
import Derived.Test.YtpcjifhklofofaaCp
import Derived.Test.YtpcjifhklofofaaSl
import Derived.Test.YtpcjifhklofofaaZn
import Derived.Test.YtpcjifhklofofaaLf
import Derived.Test.YtpcjifhklofofaaAe
import Derived.Test.YtpcjifhklofofaaArS
namespace Go.Proofs.Ytpcjifhklofofaa
open Go.RowKit Go.Lib
set_option linter.unusedVariables false
theorem encB_min (L : List (List UInt8)) : L.length ≤ (encB L).length := by
  induction L with
  | nil => simp
  | cons a r ih =>
    have := Lib.uvarint_pos a.length
    rw [encB, List.map_cons, List.flatten_cons, List.length_append, List.length_append, List.length_cons, ← encB]
    omega
theorem encB_drop {L : List (List UInt8)} {k : Nat} {l : List UInt8} (h : L[k]? = some l) : encB (L.drop k) = Lib.uvarint l.length ++ (l ++ encB (L.drop (k + 1))) := by
  obtain ⟨hk, hl⟩ := List.getElem?_eq_some_iff.1 h
  rw [List.drop_eq_getElem_cons hk, hl, encB, List.map_cons, List.flatten_cons, ← encB, List.append_assoc]
theorem own_cut {w : World} {base s n c m : Nat} {e : TypeId} {A : Option Addr} {xs : List Value} (h : w.ownsRow base e s (.slice A n c) n xs) (hm : m ≤ n) : w.ownsRow base e s (.slice A m c) m (xs.take (m * s)) := by
  refine ⟨by rw [List.length_take, h.1]; exact Nat.min_eq_left (Nat.mul_le_mul_right s hm), ?_⟩
  rcases h.2 with ⟨h1, h2⟩ | ⟨g, cap, cur, h1, hb, hg, hnc, hcm, hcs, hcur⟩
  · injection h1 with h1 h3 h4
    subst h1 h4
    obtain rfl : m = 0 := by omega
    exact .inl ⟨rfl, rfl⟩
  · injection h1 with h1 h3 h4
    subst h1 h4
    refine .inr ⟨g, c, cur, rfl, hb, hg, by omega, hcm, hcs, ?_⟩
    rw [← hcur, List.take_take, Nat.min_eq_left (Nat.mul_le_mul_right s hm)]
theorem RdrOn.apart_own {w : World} {base rb bb b n s : Nat} {D R : Option Nat} {d : List UInt8} {e : TypeId} {v : Value} {xs : List Value} (h : RdrOn w base rb bb D R d) (ho : w.ownsRow b e s v n xs) (hne : 5 ≠ e) : ∀ k, v.ownBlock = some k → R ≠ some k := by
  obtain ⟨A, c, C, n', k', q, hR, _, hC⟩ := h
  intro k hk hr
  exact own_apart hR.own ho hne k (by rw [ownBlock_slice, hC, hr]) hk
theorem RdrOn.apart_whole {w : World} {base rb bb g : Nat} {D R : Option Nat} {d : List UInt8} {t : TypeId} {cs : Array Value} (h : RdrOn w base rb bb D R d) (hW : Whole w g t cs) (hne : 5 ≠ t) : R ≠ some g := by
  obtain ⟨A, c, C, n', k', q, hR, _, hC⟩ := h
  intro hr
  exact own_far hR.own hW hne (by rw [ownBlock_slice, hC, hr])
/-- What is known ahead of the loop. -/
structure SdPre (w : World) (rb bb g : Nat) (D R : Option Nat) : Prop where
  gl : g < w.heap.size
  rl : rb < w.heap.size
  bl : bb < w.heap.size
  g1 : g ≠ rb
  g2 : g ≠ bb
  g3 : R ≠ some g
  d1 : D ≠ some g
  dl : ∀ i, D = some i → i < w.heap.size
structure SdAt (w wr : World) (base rb bb g : Nat) (D R : Option Nat) (A : Option Addr) (M c : Nat) (B : Option Addr) (cB x y : Nat) (P : List (List UInt8)) (q : List UInt8) (cells : List Value) (R1 : Option Nat) (bs : List UInt8) : Prop where
  blk : Whole wr g 57 #[.slice A M c, .slice B P.length cB]
  buf : wr.ownsRow w.heap.size 5 1 (.slice A M c) M cells
  got : ∃ rest, cells = Lib.byteCells q ++ rest
  pos : wr.ownsRow (w.heap.size + 1) 101 2 (.slice B P.length cB) P.length (posCells 0 P)
  pp : Whole wr w.heap.size 101 #[.int .i64 x, .int .i64 y]
  rdr : RdrOn wr base rb bb D R1 bs
  new : R1 = R ∨ ∀ i, R1 = some i → w.heap.size ≤ i
  apart : ∀ i, ob A = some i → R1 ≠ some i
  keeps : Keeps (fun i => i = g ∨ i = rb ∨ i = bb ∨ R = some i) w wr
section
variable {w wr w2 w3 : World} {base rb bb g : Nat} {D R : Option Nat} {A : Option Addr} {M c : Nat} {B : Option Addr} {cB x y : Nat} {P : List (List UInt8)} {q : List UInt8} {cells : List Value} {R1 : Option Nat} {bs : List UInt8}
theorem SdAt.ra (h : SdAt w wr base rb bb g D R A M c B cB x y P q cells R1 bs) (hp : SdPre w rb bb g D R) : R1 ≠ some g := by
  rcases h.new with e | e
  · rw [e]; exact hp.g3
  · intro h2
    have := e g h2
    have := hp.gl
    omega
theorem SdAt.al (h : SdAt w wr base rb bb g D R A M c B cB x y P q cells R1 bs) : ∀ i, ob A = some i → w.heap.size ≤ i ∧ i < wr.heap.size := fun i hi => h.buf.lt i (by rw [ownBlock_slice]; exact hi)
theorem SdAt.bl (h : SdAt w wr base rb bb g D R A M c B cB x y P q cells R1 bs) : ∀ i, ob B = some i → w.heap.size + 1 ≤ i ∧ i < wr.heap.size := fun i hi => h.pos.lt i (by rw [ownBlock_slice]; exact hi)
theorem SdAt.new0 (h : SdAt w wr base rb bb g D R A M c B cB x y P q cells R1 bs) (hk : Keeps (fun _ => False) wr w2) : SdAt w w2 base rb bb g D R A M c B cB x y P q cells R1 bs :=
  ⟨h.blk.keeps hk (fun h => h), own_keeps h.buf hk (fun _ _ h => h), h.got, own_keeps h.pos hk (fun _ _ h => h), h.pp.keeps hk (fun h => h), h.rdr.new hk, h.new, h.apart, h.keeps.trans hk (fun _ _ h => h.elim)⟩
theorem SdAt.go {bs2 : List UInt8} (h : SdAt w wr base rb bb g D R A M c B cB x y P q cells R1 bs) (hp : SdPre w rb bb g D R) (hG : RdrGo wr w2 base rb bb D R1 bs2) : ∃ R2, SdAt w w2 base rb bb g D R A M c B cB x y P q cells R2 bs2 := by
  obtain ⟨R2, hon, hR2⟩ := hG.on
  have ra := h.ra hp
  obtain ⟨gl, rl, bl, g1, g2, g3, d1, dl⟩ := hp
  refine ⟨R2, h.blk.keeps hG.keeps ?_, own_keeps h.buf hG.keeps ?_, h.got, own_keeps h.pos hG.keeps ?_, h.pp.keeps hG.keeps ?_, hon, ?_, ?_, h.keeps.trans hG.keeps ?_⟩
  · rintro (e | e | e)
    · exact g1 e
    · exact g2 e
    · exact ra e
  · intro k hk e
    rw [ownBlock_slice] at hk
    have := h.al k hk
    rcases e with e | e | e
    · omega
    · omega
    · exact h.apart k hk e
  · intro k hk e
    have h3 := h.rdr.apart_own h.pos (by decide) k hk
    rw [ownBlock_slice] at hk
    have := h.bl k hk
    rcases e with e | e | e
    · omega
    · omega
    · exact h3 e
  · rintro (e | e | e)
    · omega
    · omega
    · exact h.rdr.apart_whole h.pp (by decide) e
  · rcases hR2 with e | e
    · rw [e]; exact h.new
    · exact .inr fun i hi => Nat.le_trans h.keeps.size (e i hi)
  · intro i hi e
    rcases hR2 with e2 | e2
    · exact h.apart i hi (e2 ▸ e)
    · have := e2 i e
      have := h.al i hi
      omega
  · rintro i hi (e | e | e)
    · exact .inr (.inl e)
    · exact .inr (.inr (.inl e))
    · refine .inr (.inr (.inr ?_))
      rcases h.new with e2 | e2
      · rw [← e2]; exact e
      · have := e2 i e
        omega
theorem SdAt.put0 (h : SdAt w wr base rb bb g D R A M c B cB x y P q cells R1 bs) (hp : SdPre w rb bb g D R) (j : Nat) (u : Value) (x' y' : Nat) (hj : (#[Value.int .i64 x, Value.int .i64 y]).setIfInBounds j u = #[.int .i64 x', .int .i64 y']) : SdAt w (wr.setCell ⟨w.heap.size, j, none⟩ u) base rb bb g D R A M c B cB x' y' P q cells R1 bs := by
  obtain ⟨gl, rl, bl, g1, g2, g3, d1, dl⟩ := hp
  have K := (Keeps.refl (fun i => i = w.heap.size) wr).setCell (p := ⟨w.heap.size, j, none⟩) (.inl rfl) u
  have hb := h.pp.put j u
  rw [hj] at hb
  have nA : ob A ≠ some w.heap.size := by have := own_far h.buf h.pp (by decide); rwa [ownBlock_slice] at this
  refine ⟨h.blk.keeps K (by omega), own_keeps h.buf K (fun k hk e => ?_), h.got, own_keeps h.pos K (fun k hk e => ?_), hb, h.rdr.keeps K (by omega) (by omega) (fun i hi e => ?_) (fun i hi e => ?_), h.new, h.apart, h.keeps.trans K (fun i hi e => by omega)⟩
  · rw [ownBlock_slice] at hk
    exact nA (e ▸ hk)
  · rw [ownBlock_slice] at hk
    have := h.bl k hk
    omega
  · exact h.rdr.apart_whole h.pp (by decide) (e ▸ hi)
  · have := dl i hi
    omega
theorem SdAt.grow {an M' c' : Nat} {A' : Option Addr} (h : SdAt w wr base rb bb g D R A M c B cB x y P q cells R1 bs) (hp : SdPre w rb bb g D R) (ho : w3.ownsRow w.heap.size 5 1 (.slice A' M' c') M' (cells ++ zer an)) (hg : wr.grownBy w3 (ob A)) (hat : ob A' = ob A ∨ ob A' = some wr.heap.size) :
    SdAt w (w3.setCell ⟨g, 0, none⟩ (.slice A' M' c')) base rb bb g D R A' M' c' B cB x y P q (cells ++ zer an) R1 bs := by
  have hp' := hp
  obtain ⟨gl, rl, bl, g1, g2, g3, d1, dl⟩ := hp
  have K3 : Keeps (fun i => ob A = some i) wr w3 := (Keeps.refl _ wr).grown hg (fun k hk => .inl hk)
  have K4 := (Keeps.refl (fun i => i = g) w3).setCell (p := ⟨g, 0, none⟩) (.inl rfl) (.slice A' M' c')
  have al := h.al
  have nA : ob A ≠ some w.heap.size := by have := own_far h.buf h.pp (by decide); rwa [ownBlock_slice] at this
  have nB : ∀ k, ob B = some k → ob A ≠ some k := by have := own_apart h.pos h.buf (by decide); simpa only [ownBlock_slice] using this
  have b3 := h.blk.keeps K3 (fun e => by have := al g e; omega)
  have p3 := own_keeps h.pos K3 (fun k hk e => by rw [ownBlock_slice] at hk; exact nB k hk e)
  have r3 := h.rdr.keeps K3 (fun e => by have := al _ e; omega) (fun e => by have := al _ e; omega) (fun i hi e => h.apart i e hi) (fun i hi e => by have := al i e; have := dl i hi; omega)
  have a' : ∀ i, ob A' = some i → w.heap.size ≤ i := fun i hi => (ho.lt i (by rw [ownBlock_slice]; exact hi)).1
  obtain ⟨rest, hr⟩ := h.got
  refine ⟨b3.put 0 _, own_keeps ho K4 (fun k hk e => by rw [ownBlock_slice] at hk; have := a' k hk; omega), ⟨rest ++ zer an, by rw [hr, List.append_assoc]⟩, own_keeps p3 K4 (fun k hk e => by rw [ownBlock_slice] at hk; have := h.bl k hk; omega), (h.pp.keeps K3 nA).keeps K4 (by omega), r3.keeps K4 (by omega) (by omega) (fun i hi e => h.ra hp' (e ▸ hi)) (fun i hi e => d1 (e ▸ hi)), h.new, fun i hi => ?_, (h.keeps.trans K3 (fun i hi e => by have := al i e; omega)).trans K4 (fun i _ e => .inl e)⟩
  rcases hat with e | e
  · exact h.apart i (e ▸ hi)
  · intro e2
    have := h.rdr.facts.2.2.2.2 i e2
    rw [e] at hi
    injection hi with hi
    omega
theorem SdAt.row {B' : Option Addr} {cB' : Nat} {l : List UInt8} (h : SdAt w wr base rb bb g D R A M c B cB x y P q cells R1 bs) (hp : SdPre w rb bb g D R) (ho : w3.ownsRow (w.heap.size + 1) 101 2 (.slice B' (P.length + 1) cB') (P.length + 1) (posCells 0 P ++ [.int .i64 x, .int .i64 y])) (hg : wr.grownBy w3 (ob B)) (hx : x = P.flatten.length) (hy : y = P.flatten.length + l.length) :
    SdAt w (w3.setCell ⟨g, 1, none⟩ (.slice B' (P.length + 1) cB')) base rb bb g D R A M c B' cB' x y (P ++ [l]) q cells R1 bs := by
  have hp' := hp
  obtain ⟨gl, rl, bl, g1, g2, g3, d1, dl⟩ := hp
  have K3 : Keeps (fun i => ob B = some i) wr w3 := (Keeps.refl _ wr).grown hg (fun k hk => .inl hk)
  have K4 := (Keeps.refl (fun i => i = g) w3).setCell (p := ⟨g, 1, none⟩) (.inl rfl) (.slice B' (P.length + 1) cB')
  have hbl := h.bl
  have nB : ∀ k, ob A = some k → ob B ≠ some k := by have := own_apart h.buf h.pos (by decide); simpa only [ownBlock_slice] using this
  have nR : ∀ k, ob B = some k → R1 ≠ some k := fun k hk => h.rdr.apart_own h.pos (by decide) k (by rw [ownBlock_slice]; exact hk)
  have b3 := h.blk.keeps K3 (fun e => by have := hbl g e; omega)
  have p3 := own_keeps h.buf K3 (fun k hk e => by rw [ownBlock_slice] at hk; exact nB k hk e)
  have r3 := h.rdr.keeps K3 (fun e => by have := hbl _ e; omega) (fun e => by have := hbl _ e; omega) (fun i hi e => nR i e hi) (fun i hi e => by have := hbl i e; have := dl i hi; omega)
  have b' : ∀ i, ob B' = some i → w.heap.size ≤ i := fun i hi => by have := (ho.lt i (by rw [ownBlock_slice]; exact hi)).1; omega
  have hl : (P ++ [l]).length = P.length + 1 := by simp
  have hpc : posCells 0 (P ++ [l]) = posCells 0 P ++ [.int .i64 x, .int .i64 y] := by rw [posCells_snoc, Nat.zero_add, hx, hy]
  refine ⟨by rw [hl]; exact b3.put 1 _, own_keeps p3 K4 (fun k hk e => by rw [ownBlock_slice] at hk; have := h.al k hk; omega), h.got, ?_, (h.pp.keeps K3 (fun e => by have := hbl _ e; omega)).keeps K4 (by omega), r3.keeps K4 (by omega) (by omega) (fun i hi e => h.ra hp' (e ▸ hi)) (fun i hi e => d1 (e ▸ hi)), h.new, h.apart, (h.keeps.trans K3 (fun i hi e => by have := hbl i e; omega)).trans K4 (fun i _ e => .inl e)⟩
  rw [hl, hpc]
  exact own_keeps ho K4 (fun k hk e => by rw [ownBlock_slice] at hk; have := b' k hk; omega)
theorem sd_start {n cP : Nat} {BP : Addr} {W1 wc : World} {zs : List Value} (hp : SdPre w rb bb g D R) (hW : w.alloc (.cells #[.int .i64 0, .int .i64 0] 101) = W1) (hR : RdrOn w base rb bb D R bs) (hoP : wc.ownsRow W1.heap.size 101 2 (.slice (some BP) n cP) n zs) (hb : Whole wc g 57 #[.slice none 0 0, .slice (some BP) n cP]) (hk : Keeps (fun i => i = g) W1 wc) :
    SdAt w ((wc.setCell ⟨g, 1, none⟩ (.slice (some BP) 0 cP)).drew.setCell ⟨g, 0, none⟩ (.slice none 0 0)) base rb bb g D R none 0 0 (some BP) cP 0 0 [] [] [] R bs := by
  obtain ⟨gl, rl, bl, g1, g2, g3, d1, dl⟩ := hp
  have K0 := (Keeps.refl (fun _ => False) w).alloc (.cells #[.int .i64 0, .int .i64 0] 101)
  have hpp := Whole.new w 101 #[.int .i64 0, .int .i64 0]
  have hs : (World.heap (w.alloc (.cells #[.int .i64 0, .int .i64 0] 101))).size = w.heap.size + 1 := by simp
  rw [hW] at K0 hpp hs
  have Ka := ((Keeps.refl (fun i => i = g) wc).setCell (p := ⟨g, 1, none⟩) (.inl rfl) (.slice (some BP) 0 cP)).drew.setCell (p := ⟨g, 0, none⟩) (.inl rfl) (.slice none 0 0)
  have K := hk.trans Ka (fun _ _ h => h)
  have hc := own_cut hoP (Nat.zero_le n)
  rw [Nat.zero_mul, List.take_zero, hs] at hc
  refine ⟨((hb.put 1 _).drew.put 0 _), ⟨rfl, .inl ⟨rfl, rfl⟩⟩, ⟨[], rfl⟩, own_keeps hc Ka (fun i hi e => ?_), hpp.keeps K (by omega), (hR.new K0).keeps K (by omega) (by omega) (fun i hi e => g3 (e ▸ hi)) (fun i hi e => d1 (e ▸ hi)), .inl rfl, (fun i hi => nomatch hi), (K0.mono (S' := fun i => i = g ∨ i = rb ∨ i = bb ∨ R = some i) (fun _ _ h => h.elim)).trans K (fun i _ e => .inl e)⟩
  have h1 := (hc.lt i hi).1
  omega
theorem own_none {w : World} {b s n c : Nat} {e : TypeId} {A : Option Addr} {xs : List Value} (h : w.ownsRow b e s (.slice A n c) n xs) : (A = none ∧ n = 0 ∧ c = 0) ∨ ∃ g, A = some ⟨g, 0, none⟩ := by
  rcases h.2 with ⟨h1, h2⟩ | ⟨g, cap, cur, h1, _⟩
  · injection h1 with h1 h3 h4
    exact .inl ⟨h1, h2, h4⟩
  · injection h1 with h1 h3 h4
    exact .inr ⟨g, h1⟩
def SdGot (w : World) (base rb bb g : Nat) (D R : Option Nat) (A : Option Addr) (M c : Nat) (B : Option Addr) (cB x y : Nat) (P : List (List UInt8)) (q : List UInt8) (R1 : Option Nat) (bs : List UInt8) (e : Ending) (w' : World) : Prop := e = .returned .nilIface ∧ ∃ cells, SdAt w w' base rb bb g D R A M c B cB x y P q cells R1 bs
theorem sdRead {ga S m : Nat} (kc : Nat) (h : SdAt w wr base rb bb g D R (some ⟨ga, 0, none⟩) M c B cB x y P q cells R1 bs) (hp : SdPre w rb bb g D R) (hS : q.length = S) (hM : S + m ≤ M) (hm : m ≤ bs.length) :
    Calls Try.prog 66 #[.pointer (some ⟨rb, 0, none⟩), .slice (some ⟨ga, S, none⟩) m kc] wr (SdGot w base rb bb g D R (some ⟨ga, 0, none⟩) M c B cB x y P (q ++ bs.take m) R1 (bs.drop m)) := by
  have hga := h.al ga rfl
  have hna := h.apart ga rfl
  have hp' := hp
  obtain ⟨gl, rl, bl, g1, g2, g3, d1, dl⟩ := hp
  obtain ⟨A1, c1, C, n1, k1, q1, hR, hA, hC⟩ := h.rdr
  have nD : ob A1 ≠ some ga := by
    rcases hA with e | e
    · rw [e]
      intro e2
      have := dl ga e2
      omega
    · rw [e]; intro e2; cases e2
  refine (readFullPart wr base rb bb A1 c1 bs C n1 k1 q1 w.heap.size ga M c S m kc cells hR hm h.buf hM (by omega) (by omega) (by rw [hC]; exact hna) nD).mono ?_
  rintro e w5 ⟨A2, c2, rfl, hR2, ho, K, hA2⟩
  have nP : ga ≠ w.heap.size := by have := own_far h.buf h.pp (by decide); rw [ownBlock_slice] at this; exact fun e => this (by rw [← e]; rfl)
  have nB : ob B ≠ some ga := by have := own_apart h.buf h.pos (by decide) ga rfl; rwa [ownBlock_slice] at this
  obtain ⟨rest, hr⟩ := h.got
  have hql : (Lib.byteCells q).length = S := by rw [Lib.byteCells_length, hS]
  refine ⟨rfl, _, ⟨h.blk.keeps K (by omega), ho, ⟨cells.drop (S + m), ?_⟩, own_keeps h.pos K (fun k hk e => ?_), h.pp.keeps K (by omega), ⟨A2, c2, C, n1, k1, q1, hR2, ?_, hC⟩, h.new, h.apart, h.keeps.trans K (fun i hi e => by omega)⟩⟩
  · rw [Lib.byteCells_append, hr, ← hql, List.take_left]
  · rw [ownBlock_slice] at hk
    have := h.bl k hk
    rcases e with e | e
    · omega
    · exact nB (e ▸ hk)
  · rcases hA with e | e
    · exact .inl (hA2.trans e)
    · rw [e] at hA2
      cases A2 with
      | none => exact .inr rfl
      | some a => cases hA2
theorem sdRead0 {ga : Nat} (h : SdAt w wr base rb bb g D R (some ⟨ga, 0, none⟩) M c B cB x y P q cells R1 bs) (hp : SdPre w rb bb g D R) :
    Calls Try.prog 66 #[.pointer (some ⟨rb, 0, none⟩), .slice (some ⟨ga, 0, none⟩) 0 0] wr (SdGot w base rb bb g D R (some ⟨ga, 0, none⟩) M c B cB x y P q R1 bs) := by
  have hga := h.al ga rfl
  have hna := h.apart ga rfl
  obtain ⟨gl, rl, bl, g1, g2, g3, d1, dl⟩ := hp
  obtain ⟨A1, c1, C, n1, k1, q1, hR, hA, hC⟩ := h.rdr
  have nD : ob A1 ≠ some ga := by
    rcases hA with e | e
    · rw [e]
      intro e2
      have := dl ga e2
      omega
    · rw [e]; intro e2; cases e2
  refine (readFullPart wr base rb bb A1 c1 bs C n1 k1 q1 w.heap.size ga M c 0 0 0 cells hR (Nat.zero_le _) h.buf (Nat.zero_le _) (by omega) (by omega) (by rw [hC]; exact hna) nD).mono ?_
  rintro e w5 ⟨A2, c2, rfl, hR2, ho, K, hA2⟩
  have nP : ga ≠ w.heap.size := by have := own_far h.buf h.pp (by decide); rw [ownBlock_slice] at this; exact fun e => this (by rw [← e]; rfl)
  have nB : ob B ≠ some ga := by have := own_apart h.buf h.pos (by decide) ga rfl; rwa [ownBlock_slice] at this
  have ho' : w5.ownsRow w.heap.size 5 1 (.slice (some ⟨ga, 0, none⟩) M c) M cells := by simpa [Lib.byteCells] using ho
  refine ⟨rfl, cells, ⟨h.blk.keeps K (by omega), ho', h.got, own_keeps h.pos K (fun k hk e => ?_), h.pp.keeps K (by omega), ⟨A2, c2, C, n1, k1, q1, by simpa using hR2, ?_, hC⟩, h.new, h.apart, h.keeps.trans K (fun i hi e => by omega)⟩⟩
  · rw [ownBlock_slice] at hk
    have := h.bl k hk
    rcases e with e | e
    · omega
    · exact nB (e ▸ hk)
  · rcases hA with e | e
    · exact .inl (hA2.trans e)
    · rw [e] at hA2
      cases A2 with
      | none => exact .inr rfl
      | some a => cases hA2
theorem sdReadN (h : SdAt w wr base rb bb g D R none M c B cB x y P q cells R1 bs) (hp : SdPre w rb bb g D R) :
    Calls Try.prog 66 #[.pointer (some ⟨rb, 0, none⟩), .slice none 0 0] wr (SdGot w base rb bb g D R none M c B cB x y P q R1 bs) := by
  obtain ⟨gl, rl, bl, g1, g2, g3, d1, dl⟩ := hp
  obtain ⟨A1, c1, C, n1, k1, q1, hR, hA, hC⟩ := h.rdr
  refine (readFullNone wr base rb bb A1 c1 bs C n1 k1 q1 hR).mono ?_
  rintro e w5 ⟨A2, c2, rfl, hR2, K, hA2⟩
  refine ⟨rfl, cells, ⟨h.blk.keeps K (by omega), own_keeps h.buf K (fun k hk e => by rw [ownBlock_slice] at hk; cases hk), h.got, own_keeps h.pos K (fun k hk e => ?_), h.pp.keeps K (by omega), ⟨A2, c2, C, n1, k1, q1, hR2, ?_, hC⟩, h.new, h.apart, h.keeps.trans K (fun i hi e => by omega)⟩⟩
  · rw [ownBlock_slice] at hk
    have := h.bl k hk
    omega
  · rcases hA with e | e
    · exact .inl (hA2.trans e)
    · rw [e] at hA2
      cases A2 with
      | none => exact .inr rfl
      | some a => cases hA2
end
end Go.Proofs.Ytpcjifhklofofaa
