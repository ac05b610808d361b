/- PRGet: values are asked for one behind the other, and behind an error no more. Conditions: the Ops are from 1 to 22; lengths are at most 1000. -/
import Derived.Test.YthfoleapdmpdfaaDoorRo
namespace Go.Proofs.YthfoleapdmpdfaaDoor
open Go.RowKit Go.Lib
set_option linter.unusedVariables false
/-- A value that is asked for (or put), and where its bytes lie. -/
structure PAsk where
  op : Int
  u : Nat
  v : Int
  s : List UInt8
  A : Option Addr
  c : Nat
def askC (a : PAsk) : List Value := [.int .i64 a.op, .int .u64 (a.u : Int), .int .u64 a.v, .slice a.A a.s.length a.c]
/-- What was got, and where its bytes lie. -/
structure PGot where
  U : Nat
  V : Nat
  S : List UInt8
  E : Bool
  A : Option Addr
  c : Nat
def gotC (g : PGot) : List Value := [.int .u64 (g.U : Int), .int .u64 (g.V : Int), .slice g.A g.S.length g.c, .bool g.E]
abbrev Gv := Nat × Nat × List UInt8 × Bool
def PGot.val (g : PGot) : Gv := (g.U, g.V, g.S, g.E)
theorem flat4g {α : Type} (f : α → List Value) (hf : ∀ a, (f a).length = 4) {rs : List α} {k : Nat} {r : α} (h : rs[k]? = some r) (j : Nat) (hj : j < 4) : (rs.map f).flatten[4 * k + j]? = (f r)[j]? := by
  induction rs generalizing k with
  | nil => simp at h
  | cons x t ih =>
    rw [List.map_cons, List.flatten_cons]
    rcases k with _ | k
    · simp only [List.getElem?_cons_zero, Option.some.injEq] at h
      subst h
      rw [List.getElem?_append_left (by rw [hf]; omega)]
      simp
    · simp only [List.getElem?_cons_succ] at h
      rw [List.getElem?_append_right (by rw [hf]; omega), ← ih h]
      congr 1
      rw [hf]; omega
theorem flat4l {α : Type} (f : α → List Value) (hf : ∀ a, (f a).length = 4) (rs : List α) : (rs.map f).flatten.length = rs.length * 4 := by
  induction rs with
  | nil => rfl
  | cons x t ih => rw [List.map_cons, List.flatten_cons, List.length_append, ih, hf, List.length_cons]; omega
theorem rows4 {α : Type} (f : α → List Value) (hf : ∀ a, (f a).length = 4) {w : World} {U : Option Addr} {n k : Nat} {rs : List α} {r : α} (hl : rs.length = n) (h : Rd w 4 U n (rs.map f).flatten) (hk : rs[k]? = some r) : ∃ ad, U = some ad ∧ ad.block < w.heap.size ∧ ∀ j (u : Value), (f r)[j]? = some u → w.cell? ((ad.add (k * 4)).add j) = some u := by
  have hlt : k < n := by rw [← hl]; exact (List.getElem?_eq_some_iff.1 hk).1
  obtain ⟨ad, hA, hb, hc⟩ := h.2 (by omega)
  refine ⟨ad, hA, hb, fun j u hu => ?_⟩
  rw [add_add', show k * 4 + j = 4 * k + j by omega]
  refine hc _ u ?_
  rw [flat4g f hf hk j (by have := (List.getElem?_eq_some_iff.1 hu).1; rw [hf] at this; exact this)]
  exact hu
theorem askC_len (a : PAsk) : (askC a).length = 4 := rfl
theorem gotC_len (a : PGot) : (gotC a).length = 4 := rfl
structure AsksAt (w : World) (E : Option Addr) (n : Nat) (asks : List PAsk) : Prop where
  len : asks.length = n
  rows : Rd w 4 E n (asks.map askC).flatten
  bytes : ∀ a ∈ asks, Rd w 1 a.A a.s.length (Lib.byteCells a.s)
theorem AsksAt.new {w w' : World} {E : Option Addr} {n : Nat} {asks : List PAsk} (h : AsksAt w E n asks) (k : Keeps (fun _ => False) w w') : AsksAt w' E n asks := ⟨h.len, h.rows.keeps k (fun _ _ h => h), fun a ha => (h.bytes a ha).keeps k (fun _ _ h => h)⟩
structure GotsAt (w : World) (E : Option Addr) (n : Nat) (gs : List PGot) : Prop where
  len : gs.length = n
  rows : Rd w 4 E n (gs.map gotC).flatten
  bytes : ∀ a ∈ gs, Rd w 1 a.A a.S.length (Lib.byteCells a.S)
theorem GotsAt.new {w w' : World} {E : Option Addr} {n : Nat} {gs : List PGot} (h : GotsAt w E n gs) (k : Keeps (fun _ => False) w w') : GotsAt w' E n gs := ⟨h.len, h.rows.keeps k (fun _ _ h => h), fun a ha => (h.bytes a ha).keeps k (fun _ _ h => h)⟩
/-- One value more. -/
def stepM (q : Option (List UInt8) × List Gv) (a : PAsk) : Option (List UInt8) × List Gv := match q.1 with
  | none => (none, q.2 ++ [(0, 0, [], true)])
  | some d => match getM a.op.toNat a.u a.s d with
    | none => (none, q.2 ++ [(0, 0, [], true)])
    | some (U, V, S, l) => (some l, q.2 ++ [(U, V, S, false)])
/-- What is left, and what was got. -/
def readM (d : List UInt8) (asks : List PAsk) : Option (List UInt8) × List Gv := asks.foldl stepM (some d, [])
theorem readM_snoc {d : List UInt8} {asks : List PAsk} {k : Nat} {a : PAsk} (h : asks[k]? = some a) : readM d (asks.take (k + 1)) = stepM (readM d (asks.take k)) a := by
  rw [readM, List.take_add_one, h, List.foldl_append]; rfl
theorem stepM_stop {q : Option (List UInt8) × List Gv} {a : PAsk} (h : q.1 = none) : stepM q a = (none, q.2 ++ [(0, 0, [], true)]) := by rw [stepM, h]
theorem stepM_err {q : Option (List UInt8) × List Gv} {a : PAsk} {d : List UInt8} (h : q.1 = some d) (hg : getM a.op.toNat a.u a.s d = none) : stepM q a = (none, q.2 ++ [(0, 0, [], true)]) := by rw [stepM, h]; simp only [hg]
theorem stepM_ok {q : Option (List UInt8) × List Gv} {a : PAsk} {d S l : List UInt8} {U V : Nat} (h : q.1 = some d) (hg : getM a.op.toNat a.u a.s d = some (U, V, S, l)) : stepM q a = (some l, q.2 ++ [(U, V, S, false)]) := by rw [stepM, h]; simp only [hg]
theorem rd4new (w : World) (t : TypeId) (a b c e : Value) : Rd (w.alloc (.cells #[a, b, c, e] t)) 4 (some ⟨w.heap.size, 0, none⟩) 1 [a, b, c, e] := by
  refine ⟨rfl, fun _ => ⟨_, rfl, by simp, fun j u hu => ?_⟩⟩
  rw [add_lit', Nat.zero_add, (Whole.new w t #[a, b, c, e]).cell j, ← hu]
  simp
theorem one4 (A : Option Addr) (n c : Nat) (u v : Int) (b : Bool) : ∀ x ∈ [Value.int .u64 u, .int .u64 v, .slice A n c, .bool b], x.oneCell' = true := by
  intro x hx
  simp only [List.mem_cons, List.not_mem_nil, or_false] at hx
  rcases hx with rfl | rfl | rfl | rfl <;> rfl
/-- No length is read that is above 1000. -/
def Looks (d : List UInt8) (asks : List PAsk) : Prop := ∀ (k : Nat) (a : PAsk) (l : List UInt8), asks[k]? = some a → (readM d (asks.take k)).1 = some l → lenOp a.op.toNat = true → ∀ x m, uvGo 10 0 0 l = some (x, m) → x ≤ 1000
/-- The state of the loop. -/
structure PI (w : World) (b rb bb : Nat) (R : Option Nat) (O : Option Addr) (k c : Nat) (gs : List PGot) : Prop where
  own : w.ownsRow b 34 4 (.slice O k c) k (gs.map gotC).flatten
  len : gs.length = k
  rd : ∀ g ∈ gs, Rd w 1 g.A g.S.length (Lib.byteCells g.S)
  farS : ∀ g ∈ gs, 0 < g.S.length → ∀ i, ob g.A = some i → i ≠ rb ∧ i ≠ bb ∧ R ≠ some i ∧ ob O ≠ some i ∧ i < w.heap.size
  farO : ∀ i, ob O = some i → i ≠ rb ∧ i ≠ bb ∧ R ≠ some i
theorem Rd.keepsI {w w' : World} {S : Nat → Prop} {size n : Nat} {A : Option Addr} {xs : List Value} (h : Rd w size A n xs) (hk : Keeps S w w') (hS : 0 < n → ∀ k, ob A = some k → ¬ S k) : Rd w' size A n xs := by
  rcases Nat.eq_zero_or_pos n with rfl | h0
  · exact ⟨h.1, fun h => absurd h (by omega)⟩
  · exact h.keeps hk (hS h0)
theorem PI.get {w w1 : World} {b rb bb : Nat} {R R' : Option Nat} {O : Option Addr} {k c : Nat} {gs : List PGot} (h : PI w b rb bb R O k c gs) (hk : Keeps (fun i => i = rb ∨ i = bb ∨ R = some i) w w1) (hS : R' = R ∨ ∀ i, R' = some i → w.heap.size ≤ i) : PI w1 b rb bb R' O k c gs := by
  have hlO := h.own.lt
  rw [ownBlock_slice] at hlO
  refine ⟨own_keeps h.own hk ?_, h.len, fun g hg => (h.rd g hg).keepsI hk ?_, ?_, ?_⟩
  · rw [ownBlock_slice]
    rintro i hi (e | e | e)
    · exact (h.farO i hi).1 e
    · exact (h.farO i hi).2.1 e
    · exact (h.farO i hi).2.2 e
  · rintro h0 i hi (e | e | e)
    · exact (h.farS g hg h0 i hi).1 e
    · exact (h.farS g hg h0 i hi).2.1 e
    · exact (h.farS g hg h0 i hi).2.2.1 e
  · intro g hg h0 i hi
    obtain ⟨h1, h2, h3, h4, h5⟩ := h.farS g hg h0 i hi
    refine ⟨h1, h2, ?_, h4, Nat.lt_of_lt_of_le h5 hk.size⟩
    rcases hS with rfl | e
    · exact h3
    · intro he; have := e i he; omega
  · intro i hi
    obtain ⟨h1, h2, h3⟩ := h.farO i hi
    refine ⟨h1, h2, ?_⟩
    rcases hS with rfl | e
    · exact h3
    · intro he; have := e i he; have := (hlO i hi).2; omega
theorem PI.new {w w1 : World} {b rb bb : Nat} {R : Option Nat} {O : Option Addr} {k c : Nat} {gs : List PGot} (h : PI w b rb bb R O k c gs) (hk : Keeps (fun _ => False) w w1) : PI w1 b rb bb R O k c gs := h.get (hk.mono (fun _ _ h => h.elim)) (.inl rfl)
theorem PI.app {w w1 : World} {b rb bb : Nat} {R : Option Nat} {O O' : Option Addr} {k c c' : Nat} {gs : List PGot} {g : PGot} (h : PI w b rb bb R O k c gs) (hg : w.grownBy w1 (ob O)) (hat : ob O' = ob O ∨ ob O' = some w.heap.size) (hown : w1.ownsRow b 34 4 (.slice O' (k + 1) c') (k + 1) ((gs.map gotC).flatten ++ gotC g))
    (hr : Rd w 1 g.A g.S.length (Lib.byteCells g.S)) (hf : 0 < g.S.length → ∀ i, ob g.A = some i → i ≠ rb ∧ i ≠ bb ∧ R ≠ some i ∧ ob O ≠ some i ∧ i < w.heap.size) (h1 : rb < w.heap.size) (h2 : bb < w.heap.size) (h3 : ∀ i, R = some i → i < w.heap.size) : PI w1 b rb bb R O' (k + 1) c' (gs ++ [g]) := by
  have kg : Keeps (fun i => ob O = some i) w w1 := (Keeps.refl _ _).grown hg (fun i hi => .inl hi)
  have hall : ∀ x ∈ gs ++ [g], Rd w 1 x.A x.S.length (Lib.byteCells x.S) ∧ (0 < x.S.length → ∀ i, ob x.A = some i → i ≠ rb ∧ i ≠ bb ∧ R ≠ some i ∧ ob O ≠ some i ∧ i < w.heap.size) := by
    intro x hx
    rcases List.mem_append.mp hx with hx | hx
    · exact ⟨h.rd x hx, h.farS x hx⟩
    · rw [List.mem_singleton] at hx
      subst hx
      exact ⟨hr, hf⟩
  refine ⟨?_, by rw [List.length_append, h.len]; rfl, fun x hx => (hall x hx).1.keepsI kg (fun h0 i hi e => ((hall x hx).2 h0 i hi).2.2.2.1 e), fun x hx h0 i hi => ?_, fun i hi => ?_⟩
  · rw [List.map_append, List.flatten_append]
    simpa using hown
  · obtain ⟨a1, a2, a3, a4, a5⟩ := (hall x hx).2 h0 i hi
    refine ⟨a1, a2, a3, ?_, Nat.lt_of_lt_of_le a5 kg.size⟩
    rcases hat with e | e
    · rw [e]; exact a4
    · rw [e]; intro h; injection h with h; omega
  · rcases hat with e | e
    · exact h.farO i (e ▸ hi)
    · rw [hi] at e
      injection e with e
      refine ⟨by omega, by omega, fun h => ?_⟩
      have := h3 i h
      omega
set_option maxRecDepth 100000 in
set_option maxHeartbeats 8000000 in
theorem prGetAllC (w : World) (A : Option Addr) (c : Nat) (d : List UInt8) (hA : Rd w 1 A d.length (Lib.byteCells d)) (hc : d.length ≤ c) (hAl : ∀ i, ob A = some i → i < w.heap.size) (E : Option Addr) (n ce : Nat) (asks : List PAsk) (hE : AsksAt w E n asks) (hn : n ≤ 1000) (hop : ∀ a ∈ asks, 1 ≤ a.op ∧ a.op ≤ 22 ∧ a.s.length ≤ 1000 ∧ (a.op = 19 → a.u ≤ 1000)) (hlook : Looks d asks) :
    Calls Tryd.prog 10 #[.slice A d.length c, .slice E n ce] w fun e w' => ∃ O cO gs, e = .returned (.slice O n cO) ∧ n ≤ cO ∧ GotsAt w' O n gs ∧ gs.map PGot.val = (readM d asks).2 ∧ Keeps (fun _ => False) w w' := by
  obtain ⟨i0, hi0, hz0, hz1, hz2⟩ := info_parts infoGotE
  have HN := Lib.hid (newRdr w A c d hA hc hAl)
  have HE := Lib.hid hE
  have HOP := Lib.hid hop
  have HLK := Lib.hid hlook
  have HAL := Lib.hid hAl
  clear hA hE hop hlook hAl
  go_enter Tryd.func10, Tryd.ntmps10
  go_wp2_with fail
  refine HN.out.mono ?_
  rintro e w1 ⟨rfl, hR1, hK1, hs1⟩
  have HR1 := Lib.hid hR1
  have HK1 := Lib.hid hK1
  clear hR1 hK1
  go_wp2_with fail
  go_loopw [6, 7, 15] (fun v f i wr => ∃ (k : Nat) (O : Option Addr) (cO : Nat) (gs : List PGot) (R : Option Nat), k ≤ n ∧ v = .slice O k cO ∧ f = .bool (readM d (asks.take k)).1.isNone ∧ i = .int .i64 k ∧ Hid (PI wr w.heap.size (w.heap.size + 1) w.heap.size R O k cO gs) ∧ Hid (gs.map PGot.val = (readM d (asks.take k)).2) ∧ Hid (∀ l, (readM d (asks.take k)).1 = some l → RdrOn wr w.heap.size (w.heap.size + 1) w.heap.size (ob A) R l) ∧ Hid (∀ i, R = some i → i < wr.heap.size) ∧ Hid (Keeps (fun _ => False) w wr) ∧ Hid (w.heap.size + 2 ≤ wr.heap.size)) (fun _ _ i _ => n - (RowKit.intOf i).toNat)
  case atStart => exact ⟨0, none, 0, [], none, Nat.zero_le _, rfl, rfl, rfl, Lib.hid ⟨World.ownsRow_nil _ _ _ _, rfl, (fun g h => by cases h), (fun g h => by cases h), (fun i h => by cases h)⟩, Lib.hid rfl, Lib.hid (fun l h => by injection h with h; subst h; exact HR1.out), Lib.hid (fun i h => by cases h), HK1, Lib.hid (by omega)⟩
  case round =>
    obtain ⟨k, O, cO, gs, R, hk, rfl, rfl, rfl, HP, HV, HRD, HRL, HK, HSZ⟩ := hrel
    by_cases hlt : k < n
    · obtain ⟨a, ha⟩ : ∃ a, asks[k]? = some a := ⟨_, List.getElem?_eq_getElem (by rw [HE.out.len]; exact hlt)⟩
      have hE2 := HE.out.new HK.out
      obtain ⟨ad, hEe, hb, hcell⟩ := rows4 askC askC_len hE2.len hE2.rows ha
      subst hEe
      have hbytes := hE2.bytes a (List.mem_of_getElem? ha)
      obtain ⟨o1, o22, os, o19⟩ := HOP.out a (List.mem_of_getElem? ha)
      have x0 : wr.cell? (ad.add (k * 4)) = some (.int .i64 a.op) := hcell 0 _ rfl
      have x1 : wr.cell? ⟨(ad.add (k * 4)).block, (ad.add (k * 4)).off + 1, none⟩ = some (.int .u64 (a.u : Int)) := hcell 1 _ rfl
      have x2 : wr.cell? ⟨(ad.add (k * 4)).block, (ad.add (k * 4)).off + 2, none⟩ = some (.int .u64 a.v) := hcell 2 _ rfl
      have x3 : wr.cell? ⟨(ad.add (k * 4)).block, (ad.add (k * 4)).off + 3, none⟩ = some (.slice a.A a.s.length a.c) := hcell 3 _ rfl
      have HLk := Lib.hid (fun l (h : (readM d (asks.take k)).1 = some l) hh => HLK.out k a l ha h hh)
      have HSN := Lib.hid (readM_snoc (d := d) ha)
      have HBY := Lib.hid hbytes
      have HOS := Lib.hid (And.intro o1 (And.intro o22 (And.intro os o19)))
      have HRL0 := HRL
      clear hcell hE2 ha hbytes o1 o22 os o19
      have K2 := ((Keeps.refl (fun _ => False) wr).alloc (.cells #[.int .i64 a.op, .int .u64 (a.u : Int), .int .u64 a.v, .slice a.A a.s.length a.c] 28)).alloc (.cells #[.int .u64 0, .int .u64 0, .slice none 0 0, .bool true] 34)
      rcases hst : (readM d (asks.take k)).1 with _ | dk
      · have K3 := K2.alloc (.cells #[.int .u64 0, .int .u64 0, .slice none 0 0, .bool true] 34)
        have hPb := HP.out.new K3
        have hRd := rd4new ((wr.alloc (.cells #[.int .i64 a.op, .int .u64 (a.u : Int), .int .u64 a.v, .slice a.A a.s.length a.c] 28)).alloc (.cells #[.int .u64 0, .int .u64 0, .slice none 0 0, .bool true] 34)) 34 (.int .u64 0) (.int .u64 0) (.slice none 0 0) (.bool true)
        have hsz2 : ((wr.alloc (.cells #[.int .i64 a.op, .int .u64 (a.u : Int), .int .u64 a.v, .slice a.A a.s.length a.c] 28)).alloc (.cells #[.int .u64 0, .int .u64 0, .slice none 0 0, .bool true] 34)).heap.size = wr.heap.size + 2 := by simp
        rw [hsz2] at hRd
        have n3 : w.heap.size ≤ (((wr.alloc (.cells #[.int .i64 a.op, .int .u64 (a.u : Int), .int .u64 a.v, .slice a.A a.s.length a.c] 28)).alloc (.cells #[.int .u64 0, .int .u64 0, .slice none 0 0, .bool true] 34)).alloc (.cells #[.int .u64 0, .int .u64 0, .slice none 0 0, .bool true] 34)).heap.size := Nat.le_trans HK.out.size K3.size
        simp only [Option.isNone_none]
        go_wp2_with (
          at_builtin
          refine wpList_append_rd _ rfl (.tmp 27) (.tmp 29) _ rfl w.heap.size 34 i0 _ 4 48 Tryd.underlying29 hi0 hz0 hz1 hz2 rfl (by omega) O cO k _ rfl hPb.own (some ⟨wr.heap.size + 2, 0, none⟩) 1 1 _ rfl hRd (one4 _ _ _ _ _ _) (by simp only [maxLen]; omega) (by omega) n3 ?_
          intro O3 c3 w3 o3 hg3 hat3)
        have hsb : wr.heap.size + 2 < (((wr.alloc (.cells #[.int .i64 a.op, .int .u64 (a.u : Int), .int .u64 a.v, .slice a.A a.s.length a.c] 28)).alloc (.cells #[.int .u64 0, .int .u64 0, .slice none 0 0, .bool true] 34)).alloc (.cells #[.int .u64 0, .int .u64 0, .slice none 0 0, .bool true] 34)).heap.size := by simp
        have hwz := HSZ.out
        have hP3 := hPb.app (g := ⟨0, 0, [], true, none, 0⟩) hg3 hat3 o3 Rd.none' (fun h => absurd h (by simp)) (by omega) (by omega) (fun i hi => by have := HRL.out i hi; omega)
        have hlO := hPb.own.lt
        rw [ownBlock_slice] at hlO
        have hk3 := (HK.out.trans K3 (fun _ _ h => h)).grown hg3 (fun i hi => .inr (hlO i hi).1)
        have hs3 := hg3.size
        go_roundw
        case rel => exact ⟨k + 1, O3, c3, _, R, by omega, rfl, by rw [HSN.out, stepM_stop hst]; rfl, by go_num, Lib.hid hP3, Lib.hid (by rw [HSN.out, stepM_stop hst, List.map_append, HV.out]; rfl), Lib.hid (fun l h => by rw [HSN.out, stepM_stop hst] at h; cases h), Lib.hid (fun i hi => by have := HRL.out i hi; omega), Lib.hid hk3, Lib.hid (by omega)⟩
        case measure => (first | (simp [RowKit.intOf]; done) | (simp [RowKit.intOf]; omega))
      · have hD2 : ∀ i, ob A = some i → i < wr.heap.size := fun i hi => Nat.lt_of_lt_of_le (HAL.out i hi) HK.out.size
        have hOn := HRD.out dk hst
        have HFC := Lib.hid hOn.facts.2.2.2.2
        have HG := Lib.hid (getAny ((wr.alloc (.cells #[.int .i64 a.op, .int .u64 (a.u : Int), .int .u64 a.v, .slice a.A a.s.length a.c] 28)).alloc (.cells #[.int .u64 0, .int .u64 0, .slice none 0 0, .bool true] 34)) w.heap.size (w.heap.size + 1) w.heap.size (ob A) R dk (hOn.new K2) (fun i hi => Nat.lt_of_lt_of_le (hD2 i hi) K2.size) a.op HOS.out.1 HOS.out.2.1 a.u a.v a.A a.c a.s (HBY.out.keeps K2 (fun _ _ h => h)) HOS.out.2.2.1 HOS.out.2.2.2 (HLk.out dk hst))
        have HST := Lib.hid hst
        have hsz2 : ((wr.alloc (.cells #[.int .i64 a.op, .int .u64 (a.u : Int), .int .u64 a.v, .slice a.A a.s.length a.c] 28)).alloc (.cells #[.int .u64 0, .int .u64 0, .slice none 0 0, .bool true] 34)).heap.size = wr.heap.size + 2 := by simp
        have hw10 : Whole ((wr.alloc (.cells #[.int .i64 a.op, .int .u64 (a.u : Int), .int .u64 a.v, .slice a.A a.s.length a.c] 28)).alloc (.cells #[.int .u64 0, .int .u64 0, .slice none 0 0, .bool true] 34)) (wr.heap.size + 1) 34 #[.int .u64 0, .int .u64 0, .slice none 0 0, .bool true] := by
          have h := Whole.new (wr.alloc (.cells #[.int .i64 a.op, .int .u64 (a.u : Int), .int .u64 a.v, .slice a.A a.s.length a.c] 28)) 34 #[.int .u64 0, .int .u64 0, .slice none 0 0, .bool true]
          rw [World.size_alloc] at h
          exact h
        have hn10 : ¬ (wr.heap.size + 1 = w.heap.size + 1 ∨ wr.heap.size + 1 = w.heap.size ∨ R = some (wr.heap.size + 1)) := by
          have := HSZ.out
          rintro (h | h | h)
          · omega
          · omega
          · have := HRL.out _ h; omega
        clear hOn hst
        simp only [Option.isNone_some]
        go_wp2_with fail
        refine HG.out.mono ?_
        rintro e w4 (⟨U, V, S, l, A4, c4, R', hgm, rfl, hR4, hS4, hK4, hA4, hf4⟩ | ⟨l, hgm, rfl, hgo⟩)
        · have kk := (K2.mono (S' := fun i => i = w.heap.size + 1 ∨ i = w.heap.size ∨ R = some i) (fun _ _ h => h.elim)).trans hK4 (fun _ _ h => h)
          have h10 := hw10.keeps hK4 hn10
          have t0 : w4.cell? ⟨wr.heap.size + 1, 0, none⟩ = some (.int .u64 0) := h10.cell 0
          have z0 : w4.frozen? ⟨wr.heap.size + 1, 0, none⟩ = false := h10.frozen 0
          have t1 : w4.cell? ⟨wr.heap.size + 1, 1, none⟩ = some (.int .u64 0) := h10.cell 1
          have z1 : w4.frozen? ⟨wr.heap.size + 1, 1, none⟩ = false := h10.frozen 1
          have t2 : w4.cell? ⟨wr.heap.size + 1, 2, none⟩ = some (.slice none 0 0) := h10.cell 2
          have z2 : w4.frozen? ⟨wr.heap.size + 1, 2, none⟩ = false := h10.frozen 2
          have t3 : w4.cell? ⟨wr.heap.size + 1, 3, none⟩ = some (.bool true) := h10.cell 3
          have z3 : w4.frozen? ⟨wr.heap.size + 1, 3, none⟩ = false := h10.frozen 3
          have tl := h10.lt
          have kset := (((((Keeps.refl (fun i => i = wr.heap.size + 1) w4).setCell (p := ⟨wr.heap.size + 1, 0, none⟩) (.inl rfl) (.int .u64 (U : Int))).setCell (p := ⟨wr.heap.size + 1, 1, none⟩) (.inl rfl) (.int .u64 (V : Int))).setCell (p := ⟨wr.heap.size + 1, 2, none⟩) (.inl rfl) (.slice A4 S.length c4)).setCell (p := ⟨wr.heap.size + 1, 3, none⟩) (.inl rfl) (.bool false))
          have kb := ((((kk.setCell (p := ⟨wr.heap.size + 1, 0, none⟩) (.inr (by show wr.heap.size ≤ wr.heap.size + 1; omega)) (.int .u64 (U : Int))).setCell (p := ⟨wr.heap.size + 1, 1, none⟩) (.inr (by show wr.heap.size ≤ wr.heap.size + 1; omega)) (.int .u64 (V : Int))).setCell (p := ⟨wr.heap.size + 1, 2, none⟩) (.inr (by show wr.heap.size ≤ wr.heap.size + 1; omega)) (.slice A4 S.length c4)).setCell (p := ⟨wr.heap.size + 1, 3, none⟩) (.inr (by show wr.heap.size ≤ wr.heap.size + 1; omega)) (.bool false)).alloc (.cells #[.int .u64 (U : Int), .int .u64 (V : Int), .slice A4 S.length c4, .bool false] 34)
          have hS5 : R' = R ∨ ∀ i, R' = some i → wr.heap.size ≤ i := by
            rcases hS4 with e | e
            · exact .inl e
            · exact .inr fun i hi => by have := e i hi; rw [hsz2] at this; omega
          have hPb := HP.out.get kb hS5
          have hRd := rd4new ((((w4.setCell ⟨wr.heap.size + 1, 0, none⟩ (.int .u64 (U : Int))).setCell ⟨wr.heap.size + 1, 1, none⟩ (.int .u64 (V : Int))).setCell ⟨wr.heap.size + 1, 2, none⟩ (.slice A4 S.length c4)).setCell ⟨wr.heap.size + 1, 3, none⟩ (.bool false)) 34 (.int .u64 (U : Int)) (.int .u64 (V : Int)) (.slice A4 S.length c4) (.bool false)
          simp only [World.size_setCell] at hRd
          have n3 : w.heap.size ≤ (((((w4.setCell ⟨wr.heap.size + 1, 0, none⟩ (.int .u64 (U : Int))).setCell ⟨wr.heap.size + 1, 1, none⟩ (.int .u64 (V : Int))).setCell ⟨wr.heap.size + 1, 2, none⟩ (.slice A4 S.length c4)).setCell ⟨wr.heap.size + 1, 3, none⟩ (.bool false)).alloc (.cells #[.int .u64 (U : Int), .int .u64 (V : Int), .slice A4 S.length c4, .bool false] 34)).heap.size := Nat.le_trans HK.out.size kb.size
          have hR4f := hR4.facts.2.2.2.2
          have hwz := HSZ.out
          have hlO := hPb.own.lt
          rw [ownBlock_slice] at hlO
          have hlO2 := HP.out.own.lt
          rw [ownBlock_slice] at hlO2
          have hRb := (hR4.keeps kset (by omega) (by omega) (fun i hi h => by
            subst h
            rcases hS4 with e | e
            · have := HRL.out _ (e ▸ hi); omega
            · have := e _ hi; rw [hsz2] at this; omega) (fun i hi h => by have := hD2 i hi; omega)).new ((Keeps.refl (fun _ => False) _).alloc (.cells #[.int .u64 (U : Int), .int .u64 (V : Int), .slice A4 S.length c4, .bool false] 34))
          have hAb := (hA4.keeps kset (fun i hi h => by have := (hf4 i hi).1; rw [hsz2] at this; omega)).keeps ((Keeps.refl (fun _ => False) _).alloc (.cells #[.int .u64 (U : Int), .int .u64 (V : Int), .slice A4 S.length c4, .bool false] 34)) (fun _ _ h => h)
          clear h10 kset kk
          go_wp2_with (
            at_builtin
            refine wpList_append_rd _ rfl (.tmp 27) (.tmp 29) _ rfl w.heap.size 34 i0 _ 4 48 Tryd.underlying29 hi0 hz0 hz1 hz2 rfl (by omega) O cO k _ rfl hPb.own (some ⟨w4.heap.size, 0, none⟩) 1 1 _ rfl hRd (one4 _ _ _ _ _ _) (by simp only [maxLen]; omega) (by omega) n3 ?_
            intro O3 c3 w3 o3 hg3 hat3)
          have hsb : w4.heap.size < (((((w4.setCell ⟨wr.heap.size + 1, 0, none⟩ (.int .u64 (U : Int))).setCell ⟨wr.heap.size + 1, 1, none⟩ (.int .u64 (V : Int))).setCell ⟨wr.heap.size + 1, 2, none⟩ (.slice A4 S.length c4)).setCell ⟨wr.heap.size + 1, 3, none⟩ (.bool false)).alloc (.cells #[.int .u64 (U : Int), .int .u64 (V : Int), .slice A4 S.length c4, .bool false] 34)).heap.size := by rw [World.size_alloc]; simp only [World.size_setCell]; omega
          have hwr4 : wr.heap.size ≤ w4.heap.size := Nat.le_of_lt (Nat.lt_trans (by omega) tl)
          have hP3 := hPb.app (g := ⟨U, V, S, false, A4, c4⟩) hg3 hat3 o3 hAb (fun h0 i hi => by
            obtain ⟨ad, e, hb, _⟩ := hAb.2 h0
            have h1 := (hf4 i hi).1
            rw [hsz2] at h1
            have e2 : ad.block = i := by
              have : ob A4 = some i := hi
              rw [e] at this
              injection this
            exact ⟨by omega, by omega, (hf4 i hi).2, fun h => (by have := (hlO2 i h).2; omega), by rw [← e2]; exact hb⟩) (by omega) (by omega) (fun i hi => by have := hR4f i hi; omega)
          have hk3 := (HK.out.trans kb (fun i hi h => by
            rcases h with h | h | h
            · omega
            · omega
            · have := (HFC.out i h).1; omega)).grown hg3 (fun i hi => .inr (hlO i hi).1)
          have hs3 := hg3.size
          have kg : Keeps (fun i => ob O = some i) _ w3 := (Keeps.refl (fun i => ob O = some i) _).grown hg3 (fun i hi => .inl hi)
          have hR3 := hRb.keeps kg (fun h => (hPb.farO _ h).1 rfl) (fun h => (hPb.farO _ h).2.1 rfl) (fun i hi h => (hPb.farO _ h).2.2 hi) (fun i hi h => by have := HAL.out i hi; have := (hlO i h).1; omega)
          go_roundw
          case rel => exact ⟨k + 1, O3, c3, _, R', by omega, rfl, by rw [HSN.out, stepM_ok HST.out hgm]; rfl, by go_num, Lib.hid hP3, Lib.hid (by rw [HSN.out, stepM_ok HST.out hgm, List.map_append, HV.out]; rfl), Lib.hid (fun l2 h => by rw [HSN.out, stepM_ok HST.out hgm] at h; injection h with h; subst h; exact hR3), Lib.hid (fun i hi => by have := hR4f i hi; omega), Lib.hid hk3, Lib.hid (by omega)⟩
          case measure => (first | (simp [RowKit.intOf]; done) | (simp [RowKit.intOf]; omega))
        · obtain ⟨R', hR4, hS4⟩ := hgo.on
          have hK4 := hgo.keeps
          have kk := (K2.mono (S' := fun i => i = w.heap.size + 1 ∨ i = w.heap.size ∨ R = some i) (fun _ _ h => h.elim)).trans hK4 (fun _ _ h => h)
          have h10 := hw10.keeps hK4 hn10
          have t0 : w4.cell? ⟨wr.heap.size + 1, 0, none⟩ = some (.int .u64 0) := h10.cell 0
          have z0 : w4.frozen? ⟨wr.heap.size + 1, 0, none⟩ = false := h10.frozen 0
          have t1 : w4.cell? ⟨wr.heap.size + 1, 1, none⟩ = some (.int .u64 0) := h10.cell 1
          have z1 : w4.frozen? ⟨wr.heap.size + 1, 1, none⟩ = false := h10.frozen 1
          have t2 : w4.cell? ⟨wr.heap.size + 1, 2, none⟩ = some (.slice none 0 0) := h10.cell 2
          have z2 : w4.frozen? ⟨wr.heap.size + 1, 2, none⟩ = false := h10.frozen 2
          have t3 : w4.cell? ⟨wr.heap.size + 1, 3, none⟩ = some (.bool true) := h10.cell 3
          have z3 : w4.frozen? ⟨wr.heap.size + 1, 3, none⟩ = false := h10.frozen 3
          have tl := h10.lt
          have kset := (((((Keeps.refl (fun i => i = wr.heap.size + 1) w4).setCell (p := ⟨wr.heap.size + 1, 0, none⟩) (.inl rfl) (.int .u64 0)).setCell (p := ⟨wr.heap.size + 1, 1, none⟩) (.inl rfl) (.int .u64 0)).setCell (p := ⟨wr.heap.size + 1, 2, none⟩) (.inl rfl) (.slice none 0 0)).setCell (p := ⟨wr.heap.size + 1, 3, none⟩) (.inl rfl) (.bool true))
          have kb := ((((kk.setCell (p := ⟨wr.heap.size + 1, 0, none⟩) (.inr (by show wr.heap.size ≤ wr.heap.size + 1; omega)) (.int .u64 0)).setCell (p := ⟨wr.heap.size + 1, 1, none⟩) (.inr (by show wr.heap.size ≤ wr.heap.size + 1; omega)) (.int .u64 0)).setCell (p := ⟨wr.heap.size + 1, 2, none⟩) (.inr (by show wr.heap.size ≤ wr.heap.size + 1; omega)) (.slice none 0 0)).setCell (p := ⟨wr.heap.size + 1, 3, none⟩) (.inr (by show wr.heap.size ≤ wr.heap.size + 1; omega)) (.bool true)).alloc (.cells #[.int .u64 0, .int .u64 0, .slice none 0 0, .bool true] 34)
          have hS5 : R' = R ∨ ∀ i, R' = some i → wr.heap.size ≤ i := by
            rcases hS4 with e | e
            · exact .inl e
            · exact .inr fun i hi => by have := e i hi; rw [hsz2] at this; omega
          have hPb := HP.out.get kb hS5
          have hRd := rd4new ((((w4.setCell ⟨wr.heap.size + 1, 0, none⟩ (.int .u64 0)).setCell ⟨wr.heap.size + 1, 1, none⟩ (.int .u64 0)).setCell ⟨wr.heap.size + 1, 2, none⟩ (.slice none 0 0)).setCell ⟨wr.heap.size + 1, 3, none⟩ (.bool true)) 34 (.int .u64 0) (.int .u64 0) (.slice none 0 0) (.bool true)
          simp only [World.size_setCell] at hRd
          have n3 : w.heap.size ≤ (((((w4.setCell ⟨wr.heap.size + 1, 0, none⟩ (.int .u64 0)).setCell ⟨wr.heap.size + 1, 1, none⟩ (.int .u64 0)).setCell ⟨wr.heap.size + 1, 2, none⟩ (.slice none 0 0)).setCell ⟨wr.heap.size + 1, 3, none⟩ (.bool true)).alloc (.cells #[.int .u64 0, .int .u64 0, .slice none 0 0, .bool true] 34)).heap.size := Nat.le_trans HK.out.size kb.size
          have hR4f := hR4.facts.2.2.2.2
          have hwz := HSZ.out
          have hlO := hPb.own.lt
          rw [ownBlock_slice] at hlO
          have hlO2 := HP.out.own.lt
          rw [ownBlock_slice] at hlO2
          have hAb : Rd (((((w4.setCell ⟨wr.heap.size + 1, 0, none⟩ (.int .u64 0)).setCell ⟨wr.heap.size + 1, 1, none⟩ (.int .u64 0)).setCell ⟨wr.heap.size + 1, 2, none⟩ (.slice none 0 0)).setCell ⟨wr.heap.size + 1, 3, none⟩ (.bool true)).alloc (.cells #[.int .u64 0, .int .u64 0, .slice none 0 0, .bool true] 34)) 1 none ([] : List UInt8).length (Lib.byteCells []) := Rd.none'
          clear h10 kset kk
          go_wp2_with (
            at_builtin
            refine wpList_append_rd _ rfl (.tmp 27) (.tmp 29) _ rfl w.heap.size 34 i0 _ 4 48 Tryd.underlying29 hi0 hz0 hz1 hz2 rfl (by omega) O cO k _ rfl hPb.own (some ⟨w4.heap.size, 0, none⟩) 1 1 _ rfl hRd (one4 _ _ _ _ _ _) (by simp only [maxLen]; omega) (by omega) n3 ?_
            intro O3 c3 w3 o3 hg3 hat3)
          have hsb : w4.heap.size < (((((w4.setCell ⟨wr.heap.size + 1, 0, none⟩ (.int .u64 0)).setCell ⟨wr.heap.size + 1, 1, none⟩ (.int .u64 0)).setCell ⟨wr.heap.size + 1, 2, none⟩ (.slice none 0 0)).setCell ⟨wr.heap.size + 1, 3, none⟩ (.bool true)).alloc (.cells #[.int .u64 0, .int .u64 0, .slice none 0 0, .bool true] 34)).heap.size := by rw [World.size_alloc]; simp only [World.size_setCell]; omega
          have hwr4 : wr.heap.size ≤ w4.heap.size := Nat.le_of_lt (Nat.lt_trans (by omega) tl)
          have hP3 := hPb.app (g := ⟨0, 0, [], true, none, 0⟩) hg3 hat3 o3 hAb (fun h => absurd h (by simp)) (by omega) (by omega) (fun i hi => by have := hR4f i hi; omega)
          have hk3 := (HK.out.trans kb (fun i hi h => by
            rcases h with h | h | h
            · omega
            · omega
            · have := (HFC.out i h).1; omega)).grown hg3 (fun i hi => .inr (hlO i hi).1)
          have hs3 := hg3.size
          go_roundw
          case rel => exact ⟨k + 1, O3, c3, _, R', by omega, rfl, by rw [HSN.out, stepM_err HST.out hgm]; rfl, by go_num, Lib.hid hP3, Lib.hid (by rw [HSN.out, stepM_err HST.out hgm, List.map_append, HV.out]; rfl), Lib.hid (fun l h => by rw [HSN.out, stepM_err HST.out hgm] at h; cases h), Lib.hid (fun i hi => by have := hR4f i hi; omega), Lib.hid hk3, Lib.hid (by omega)⟩
          case measure => (first | (simp [RowKit.intOf]; done) | (simp [RowKit.intOf]; omega))
    · go_wp2_with fail
      go_ret
      have hkn : k = n := by omega
      subst hkn
      have hall : asks.take k = asks := List.take_of_length_le (by rw [HE.out.len]; exact Nat.le_refl _)
      have hv := HV.out
      rw [hall] at hv
      exact ⟨O, cO, gs, rfl, own_cap HP.out.own, ⟨HP.out.len, Rd.own HP.out.own, HP.out.rd⟩, hv, HK.out⟩
theorem prGetAll (w : World) (A : Option Addr) (c : Nat) (d : List UInt8) (hA : Rd w 1 A d.length (Lib.byteCells d)) (hc : d.length ≤ c) (hAl : ∀ i, ob A = some i → i < w.heap.size) (E : Option Addr) (n ce : Nat) (asks : List PAsk) (hE : AsksAt w E n asks) (hn : n ≤ 1000) (hop : ∀ a ∈ asks, 1 ≤ a.op ∧ a.op ≤ 22 ∧ a.s.length ≤ 1000 ∧ (a.op = 19 → a.u ≤ 1000)) (hlook : Looks d asks) :
    Calls Tryd.prog 10 #[.slice A d.length c, .slice E n ce] w fun e w' => ∃ O cO gs, e = .returned (.slice O n cO) ∧ GotsAt w' O n gs ∧ gs.map PGot.val = (readM d asks).2 ∧ Keeps (fun _ => False) w w' := by
  refine (prGetAllC w A c d hA hc hAl E n ce asks hE hn hop hlook).mono ?_
  rintro e w' ⟨O, cO, gs, h1, _, h⟩
  exact ⟨O, cO, gs, h1, h⟩
end Go.Proofs.YthfoleapdmpdfaaDoor
