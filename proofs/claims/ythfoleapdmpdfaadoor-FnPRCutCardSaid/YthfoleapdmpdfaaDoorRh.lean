/- What Prim.get answers, as a rule, and the steps that its arms share. Conditions: those of the reader. -/
import Derived.Test.YthfoleapdmpdfaaDoorRs
import Derived.Test.YthfoleapdmpdfaaDoorAw
namespace Go.Proofs.YthfoleapdmpdfaaDoor
open Go.RowKit Go.Lib
set_option linter.unusedVariables false
/-- What was read: two numbers, bytes, and what is left. -/
abbrev GotL := Nat × Nat × List UInt8 × List UInt8
/-- A number of k bytes. -/
def numM (k : Nat) (d : List UInt8) : Option GotL := if d.length < k then none else some (leNat (d.take k), 0, [], d.drop k)
def boolM (d : List UInt8) : Option GotL := match d with
  | [] => none
  | b :: l => if b.toNat ≤ 1 then some (b.toNat, 0, [], l) else none
def wideM (d : List UInt8) : Option GotL := if d.length < 16 then none else some (leNat (d.take 8), leNat ((d.drop 8).take 8), [], d.drop 16)
def varM (d : List UInt8) : Option GotL := (uvGo 10 0 0 d).map fun q => (q.1, 0, [], q.2)
def strM (ahead : List UInt8) (d : List UInt8) : Option GotL := (cutS d).map fun q => (0, 0, ahead ++ q.1, q.2)
def rawM (n : Nat) (d : List UInt8) : Option GotL := (cutR n d).map fun q => (0, 0, q.1, q.2)
/-- What one value is that is asked for. -/
def getM (op u : Nat) (s : List UInt8) (d : List UInt8) : Option GotL :=
  if op = 1 then numM 1 d else if op = 2 then boolM d else if op = 3 then numM 1 d else if op = 4 then numM 2 d
  else if op = 5 then numM 4 d else if op = 6 then numM 8 d else if op = 7 then numM 1 d else if op = 8 then numM 2 d
  else if op = 9 then numM 4 d else if op = 10 then numM 8 d else if op = 11 then numM 4 d else if op = 12 then numM 8 d
  else if op = 13 then wideM d else if op = 14 then wideM d else if op = 15 then varM d else if op = 16 then varM d
  else if op = 17 then varM d else if op = 18 then strM [] d else if op = 19 then rawM u d else if op = 20 then strM [] d
  else if op = 21 then strM [] d else strM s d
/-- What get answers. -/
def GetOk (w : World) (base rb bb : Nat) (D R : Option Nat) (o : Option GotL) (e : Ending) (w' : World) : Prop :=
  (∃ U V S l A c R', o = some (U, V, S, l) ∧ e = .returned (.agg #[.int .u64 (U : Int), .int .u64 (V : Int), .slice A S.length c, .bool false]) ∧ RdrOn w' base rb bb D R' l ∧ (R' = R ∨ ∀ i, R' = some i → w.heap.size ≤ i) ∧ Keeps (fun i => i = rb ∨ i = bb ∨ R = some i) w w' ∧ Rd w' 1 A S.length (Lib.byteCells S) ∧ ∀ i, ob A = some i → w.heap.size ≤ i ∧ R' ≠ some i) ∨
  (∃ l, o = none ∧ e = .returned (.agg #[.int .u64 0, .int .u64 0, .slice none 0 0, .bool true]) ∧ RdrGo w w' base rb bb D R l)
theorem start3 (w : World) (T1 T2 : TypeId) (p g1 g2 : Array Value) :
    Keeps (fun _ => False) w (((w.alloc (.cells p T1)).alloc (.cells g1 T2)).alloc (.cells g2 T2)) ∧ Whole (((w.alloc (.cells p T1)).alloc (.cells g1 T2)).alloc (.cells g2 T2)) w.heap.size T1 p ∧ Whole (((w.alloc (.cells p T1)).alloc (.cells g1 T2)).alloc (.cells g2 T2)) (w.heap.size + 1) T2 g1 ∧ Whole (((w.alloc (.cells p T1)).alloc (.cells g1 T2)).alloc (.cells g2 T2)) (w.heap.size + 2) T2 g2 := by
  refine ⟨(((Keeps.refl _ _).alloc _).alloc _).alloc _, ((Whole.new w T1 p).alloc _).alloc _, ?_, ?_⟩
  · have h := (Whole.new (w.alloc (.cells p T1)) T2 g1).alloc (.cells g2 T2)
    simp only [World.size_alloc] at h
    exact h
  · have h := Whole.new ((w.alloc (.cells p T1)).alloc (.cells g1 T2)) T2 g2
    simp only [World.size_alloc] at h
    exact h
theorem size3 (w : World) (o1 o2 o3 : Obj) : (((w.alloc o1).alloc o2).alloc o3).heap.size = w.heap.size + 3 := by simp
/-- Behind a reader's step only blocks of one's own changed. -/
theorem go_put {w W w4 w5 : World} {base rb bb : Nat} {D R : Option Nat} {l d : List UInt8} (hR : RdrOn w base rb bb D R d) (kw : Keeps (fun _ => False) w W) (hgo : RdrGo W w4 base rb bb D R l)
    (k5 : Keeps (fun i => w.heap.size ≤ i ∧ i < W.heap.size) w4 w5) (hD : ∀ i, D = some i → i < w.heap.size) : RdrGo w w5 base rb bb D R l := by
  obtain ⟨f1, f2, f3, f4, f5⟩ := hR.facts
  obtain ⟨R', hR', hS⟩ := hgo.on
  refine ⟨⟨R', hR'.keeps k5 (by omega) (by omega) ?_ ?_, ?_⟩, ?_⟩
  · rintro i hi h
    rcases hS with rfl | hS
    · have := (f5 i hi).2; omega
    · have := hS i hi; omega
  · intro i hi h
    have := hD i hi
    omega
  · rcases hS with h | hS
    · exact .inl h
    · exact .inr fun i hi => Nat.le_trans kw.size (hS i hi)
  · exact ((kw.mono (S' := fun i => i = rb ∨ i = bb ∨ R = some i) (fun _ _ h => h.elim)).trans hgo.keeps (fun _ _ h => h)).trans (S' := fun i => w.heap.size ≤ i ∧ i < W.heap.size) k5 (fun i hi h => by omega)
theorem own_new {w : World} {base rb bb : Nat} {D R : Option Nat} {d : List UInt8} (hR : RdrOn w base rb bb D R d) : ∀ i, i = w.heap.size + 1 ∨ i = w.heap.size + 2 ∨ i = w.heap.size + 3 ∨ i = w.heap.size → ¬ (i = rb ∨ i = bb ∨ R = some i) := by
  obtain ⟨f1, f2, f3, f4, f5⟩ := hR.facts
  rintro i hi (h | h | h)
  · omega
  · omega
  · have := (f5 i h).2; omega
theorem get_done {w w5 : World} {base rb bb : Nat} {D R : Option Nat} {U V : Nat} {l : List UInt8} (hgo : RdrGo w w5 base rb bb D R l) : GetOk w base rb bb D R (some (U, V, [], l)) (.returned (.agg #[.int .u64 (U : Int), .int .u64 (V : Int), .slice none 0 0, .bool false])) w5 := by
  obtain ⟨R', hR', hS⟩ := hgo.on
  exact .inl ⟨U, V, [], l, none, 0, R', rfl, rfl, hR', hS, hgo.keeps, Rd.none', fun i h => by cases h⟩
theorem GetOk.lift {w W w4 w5 : World} {base rb bb : Nat} {D R : Option Nat} {d : List UInt8} {o : Option GotL} {e : Ending} (hR : RdrOn w base rb bb D R d) (kw : Keeps (fun _ => False) w W) (h : GetOk W base rb bb D R o e w4)
    (k5 : Keeps (fun i => w.heap.size ≤ i ∧ i < W.heap.size) w4 w5) (hD : ∀ i, D = some i → i < w.heap.size) : GetOk w base rb bb D R o e w5 := by
  rcases h with ⟨U, V, S, l, A, c, R', ho, he, hR', hS, hk, hA, hfar⟩ | ⟨l, ho, he, hgo⟩
  · obtain ⟨f1, f2, f3, f4, f5⟩ := hR.facts
    have hgo := go_put hR kw (l := l) ⟨⟨R', hR', hS⟩, hk⟩ k5 hD
    refine .inl ⟨U, V, S, l, A, c, R', ho, he, ?_, ?_, hgo.keeps, hA.keeps k5 ?_, ?_⟩
    · refine hR'.keeps k5 (by omega) (by omega) ?_ ?_
      · rintro i hi h
        rcases hS with rfl | hS
        · have := (f5 i hi).2; omega
        · have := hS i hi; omega
      · intro i hi h
        have := hD i hi
        omega
    · rcases hS with h | hS
      · exact .inl h
      · exact .inr fun i hi => Nat.le_trans kw.size (hS i hi)
    · intro i hi h
      have := (hfar i hi).1
      omega
    · exact fun i hi => ⟨Nat.le_trans kw.size (hfar i hi).1, (hfar i hi).2⟩
  · exact .inr ⟨l, ho, he, go_put hR kw hgo k5 hD⟩
theorem leNat_lt' : ∀ l : List UInt8, leNat l < 256 ^ l.length
  | [] => by simp [leNat]
  | b :: t => by
    have := leNat_lt' t
    have hb := b.toNat_lt
    simp only [leNat, List.length_cons, Nat.pow_succ]
    omega
theorem fix_some {k : Nat} {f : Nat → Value} {d l : List UInt8} {v : Value} (h : fixN k f d = some (v, l)) : ∃ x : Nat, v = f x ∧ x < 256 ^ k ∧ numM k d = some (x, 0, [], l) := by
  unfold fixN at h
  split at h
  · cases h
  · rename_i hd
    injection h with h
    injection h with h1 h2
    refine ⟨_, h1.symm, ?_, by rw [numM, if_neg hd, h2]⟩
    have := leNat_lt' (d.take k)
    rw [List.length_take, Nat.min_eq_left (by omega)] at this
    exact this
theorem fix_none {k : Nat} {f : Nat → Value} {d : List UInt8} (h : fixN k f d = none) : numM k d = none := by
  unfold fixN at h
  split at h
  · rename_i hd
    rw [numM, if_pos hd]
  · cases h
end Go.Proofs.YthfoleapdmpdfaaDoor
