/- Reader.StrAppend, Reader.StrBytes, and the arms of Prim.more that call them. Conditions: those of the reader; lengths are at most 1000. -/
import Derived.Test.YthfoleapdmpdfaaDoorRn
namespace Go.Proofs.YthfoleapdmpdfaaDoor
open Go.RowKit Go.Lib
set_option linter.unusedVariables false
/-- What StrAppend answers. -/
def AppA (w : World) (base rb bb : Nat) (D R : Option Nat) (B : Option Addr) (s0 : List UInt8) (o : Option (List UInt8 × List UInt8)) (e : Ending) (w' : World) : Prop :=
  (∃ s l A c R', o = some (s, l) ∧ e = .returned (.tuple #[.slice A (s0 ++ s).length c, .nilIface]) ∧ Rd w' 1 A (s0 ++ s).length (Lib.byteCells (s0 ++ s)) ∧ RdrOn w' base rb bb D R' l ∧ (R' = R ∨ ∀ i, R' = some i → w.heap.size ≤ i) ∧ Keeps (fun i => i = rb ∨ i = bb ∨ R = some i ∨ ob B = some i) w w' ∧ (ob A = ob B ∨ ∀ i, ob A = some i → w.heap.size ≤ i)) ∨
  (∃ v l, o = none ∧ e = .returned (.tuple #[.slice none 0 0, v]) ∧ IsErr v ∧ RdrGo w w' base rb bb D R l)
set_option maxRecDepth 100000 in
set_option maxHeartbeats 2000000 in
theorem strAppendA (w : World) (base rb bb : Nat) (D R : Option Nat) (d : List UInt8) (hR : RdrOn w base rb bb D R d) (hx : ∀ x l, uvGo 10 0 0 d = some (x, l) → x ≤ 1000) (B : Option Addr) (cb b0 : Nat) (s0 : List UInt8) (hB : w.ownsRow b0 5 1 (.slice B s0.length cb) s0.length (Lib.byteCells s0)) (hb0 : b0 ≤ w.heap.size) (hs0 : s0.length ≤ 1000) (hBf : ∀ i, ob B = some i → i ≠ rb ∧ i ≠ bb ∧ R ≠ some i ∧ D ≠ some i) :
    Calls Tryd.prog 87 #[.pointer (some ⟨rb, 0, none⟩), .slice B s0.length cb] w (AppA w base rb bb D R B s0 (cutS d)) := by
  have HRAW := Lib.hid (strRawA w base rb bb D R d hR hx)
  have HF := Lib.hid hR.facts
  have HX0 := Lib.hid hx
  obtain ⟨i0, hi0, hz0, hz1, hz2⟩ := info_parts infoU8
  obtain ⟨A, c, C, n, k, q, hA, _, _⟩ := hR
  have r1 : w.cell? ⟨rb, 1, none⟩ = some (.pointer (some ⟨bb, 0, none⟩)) := hA.rdr.cell 1
  have rl := hA.rdr.lt
  clear hx hA
  go_enter_defers Tryd.func87, Tryd.ntmps87
  go_wp2_with fail
  refine HRAW.out.mono ?_
  rintro e w1 (⟨s, l, A2, c2, C2, k2, ho, rfl, hR2, hD2, hS2, hK2⟩ | ⟨z, l, ho, rfl, ⟨a, rfl⟩, hG⟩)
  · have hsl := cutS_len ho HX0.out
    have HO := Lib.hid ho
    clear ho
    have o1 := own_keeps hB hK2 (fun i hi h => by
      rw [ownBlock_slice] at hi
      obtain ⟨g1, g2, g3, g4⟩ := hBf i hi
      rcases h with h | h | h
      · exact g1 h
      · exact g2 h
      · exact g3 h)
    have hlB := hB.lt
    rw [ownBlock_slice] at hlB
    have n1 : s0.length + s.length ≤ maxLen := by simp only [maxLen]; omega
    have n2 : (s0.length + s.length) * 1 ≤ 140737488355328 := by omega
    have n3 : b0 ≤ w1.heap.size := Nat.le_trans hb0 hK2.size
    have hrd := Rd.own hR2.own
    go_wp2_with (
      at_builtin
      refine wpList_append_rd _ rfl (.tmp 21) (.tmp 22) _ rfl b0 5 i0 _ 1 1 Tryd.underlying22 hi0 hz0 hz1 hz2 rfl Nat.one_pos B cb s0.length _ rfl o1 C2 s.length k2 _ rfl hrd (byteCells_one _) n1 n2 n3 ?_
      intro A3 c3 w3 o3 hg3 hat3)
    have kg : Keeps (fun i => ob B = some i) w1 w3 := (Keeps.refl (fun i => ob B = some i) _).grown hg3 (fun i hi => .inl hi)
    have hne : ∀ i, ob B = some i → i < w.heap.size := fun i hi => (hlB i hi).2
    have hR3 : RdrAt w3 base rb bb A2 c2 l C2 s.length k2 (Lib.byteCells s) := hR2.keeps kg (fun h => (hBf _ h).1 rfl) (fun h => (hBf _ h).2.1 rfl) (fun i hi h => by
      rcases hS2 with e | e
      · exact (hBf _ h).2.2.1 (e ▸ hi)
      · have := e i hi; have := hne i h; omega) (fun i hi h => by
      rcases hD2 with e | e
      · exact (hBf _ h).2.2.2 (e ▸ hi)
      · rw [e] at hi; cases hi)
    refine leaves_cons (f := 34) (args := #[.pointer (some ⟨bb, 0, none⟩)]) (by simp) (by simp [go_sem]) ?_
    refine (resetD w3 bb s.length k2 C2 .returning hR3.blk (own_cap hR3.own) (own_nil hR3.own)).mono ?_
    rintro e u' w'' ⟨rfl, rfl, rfl⟩
    obtain ⟨q', hR4⟩ := hR3.reset
    have hbl : bb < w.heap.size := HF.out.2.1
    have hw1 := hK2.size
    have oA := (Rd.own o3).keeps ((Keeps.refl (fun i => i = bb) w3).setCell (p := ⟨bb, 0, none⟩) (.inl rfl) (.slice C2 0 k2)) (fun i hi h => by
      subst h
      rcases hat3 with e | e
      · exact (hBf _ (e ▸ hi)).2.1 rfl
      · rw [hi] at e; injection e with e; omega)
    rw [← byteCells_append, ← List.length_append] at oA
    simp [Leaves, settle, results, Tryd.results87, go_sem]
    refine .inl ⟨s, l, A3, c3, _, HO.out, by rw [List.length_append], oA, ⟨A2, c2, C2, 0, k2, q', hR4, hD2, rfl⟩, hS2, ?_, ?_⟩
    · refine ((hK2.mono (S' := fun i => i = rb ∨ i = bb ∨ R = some i ∨ ob B = some i) (fun i _ h => by rcases h with h | h | h <;> simp [h])).trans kg (fun i hi h => .inr (.inr (.inr h)))).setCell (.inl (.inr (.inl rfl))) _
    · rcases hat3 with e | e
      · exact .inl e
      · exact .inr fun i hi => by rw [hi] at e; injection e with e; omega
  · have HO := Lib.hid ho
    clear ho
    go_wp2_with (first | (go_at_call 68; go_in))
    obtain ⟨R3, hR3, hS3⟩ := hG.on
    obtain ⟨A3, c3, C3, n3, k3, q3, hA3, hD3, rfl⟩ := hR3
    have hgen : ∀ o, RdrAt (w1.alloc o) base rb bb A3 c3 l C3 n3 k3 q3 := fun o => hA3.keeps ((Keeps.refl (fun _ => False) w1).alloc o) (fun h => h) (fun h => h) (fun _ _ h => h) (fun _ _ h => h)
    refine leaves_cons (f := 34) (args := #[.pointer (some ⟨bb, 0, none⟩)]) (by simp) (by simp [go_sem]) ?_
    refine (resetD _ bb n3 k3 C3 .returning (hgen _).blk (own_cap hA3.own) (own_nil hA3.own)).mono ?_
    rintro e u' w'' ⟨rfl, rfl, rfl⟩
    obtain ⟨q', hR4⟩ := (hgen _).reset
    simp [Leaves, settle, results, Tryd.results87, go_sem]
    refine .inr ⟨_, l, HO.out, rfl, ⟨_, rfl⟩, ⟨⟨_, ⟨A3, c3, C3, 0, k3, q', hR4, hD3, rfl⟩, hS3⟩, ?_⟩⟩
    exact (hG.keeps.alloc _).setCell (.inl (.inr (.inl rfl))) _
theorem strBytesA (w : World) (base rb bb : Nat) (D R : Option Nat) (d : List UInt8) (hR : RdrOn w base rb bb D R d) (hx : ∀ x l, uvGo 10 0 0 d = some (x, l) → x ≤ 1000) :
    Calls Tryd.prog 85 #[.pointer (some ⟨rb, 0, none⟩)] w (AppA w base rb bb D R none [] (cutS d)) := by
  have HU := Lib.hid (strAppendA w base rb bb D R d hR hx none 0 w.heap.size [] (World.ownsRow_nil _ _ _ _) (Nat.le_refl _) (by simp) (fun i h => by cases h))
  clear hR hx
  go_enter Tryd.func85, Tryd.ntmps85
  go_wp2_with fail
  refine HU.out.mono ?_
  rintro e w1 (⟨s, l, A, c, R', ho, rfl, h1, h2, h3, h4, h5⟩ | ⟨v, l, ho, rfl, hv, hG⟩)
  · go_wp2_with fail
    go_ret2
    exact .inl ⟨s, l, A, c, R', ho, rfl, h1, h2, h3, h4, h5⟩
  · go_wp2_with fail
    go_ret2
    exact .inr ⟨v, l, ho, rfl, hv, hG⟩
set_option maxRecDepth 100000 in
set_option maxHeartbeats 4000000 in
theorem mr20 (w : World) (base rb bb : Nat) (D R : Option Nat) (d : List UInt8) (hR : RdrOn w base rb bb D R d) (hD : ∀ i, D = some i → i < w.heap.size) (u v : Int) (S : Option Addr) (n c : Nat) (hX : ∀ x l, uvGo 10 0 0 d = some (x, l) → x ≤ 1000) : Calls Tryd.prog 47 #[.agg #[.int .i64 20, .int .u64 u, .int .u64 v, .slice S n c], .pointer (some ⟨rb, 0, none⟩)] w (GetOk w base rb bb D R (strM [] d)) := by
  obtain ⟨K0, hp0, hg1, hg2⟩ := start3 w 28 34 #[.int .i64 20, .int .u64 u, .int .u64 v, .slice S n c] #[.int .u64 0, .int .u64 0, .slice none 0 0, .bool false] #[.int .u64 0, .int .u64 0, .slice none 0 0, .bool false]
  have HK0 := Lib.hid K0
  have HP0 := Lib.hid hp0
  have HG1 := Lib.hid hg1
  have HG2 := Lib.hid hg2
  have HR := Lib.hid hR
  have HN := Lib.hid (own_new hR)
  have HD := Lib.hid hD
  obtain ⟨i0, hi0, hz0, hz1, hz2⟩ := info_parts infoU8
  have HU := Lib.hid (strBytesA _ base rb bb D R d (hR.new K0) hX)
  have HSZ := Lib.hid (size3 w (.cells #[.int .i64 20, .int .u64 u, .int .u64 v, .slice S n c] 28) (.cells #[.int .u64 0, .int .u64 0, .slice none 0 0, .bool false] 34) (.cells #[.int .u64 0, .int .u64 0, .slice none 0 0, .bool false] 34))
  clear hR K0 hp0 hg1 hg2 hD
  have HX0 := Lib.hid hX
  clear hX
  go_enter Tryd.func47, Tryd.ntmps47
  go_wp2_with fail
  refine HU.out.mono ?_
  rintro e w4 (⟨s, l, A4, c4, R4, ho, rfl, hXR, hR4, hS4, hK4, hAf⟩ | ⟨x, l, ho, rfl, ⟨a, rfl⟩, hgo⟩)
  · have HM := Lib.hid (str_one ho)
    have hsn : s.length ≤ 1000 := cutS_len ho HX0.out
    rw [List.nil_append] at hXR
    rw [List.nil_append]
    have hKa : Keeps (fun i => i = rb ∨ i = bb ∨ R = some i) (((w.alloc (.cells #[.int .i64 20, .int .u64 u, .int .u64 v, .slice S n c] 28)).alloc (.cells #[.int .u64 0, .int .u64 0, .slice none 0 0, .bool false] 34)).alloc (.cells #[.int .u64 0, .int .u64 0, .slice none 0 0, .bool false] 34)) w4 := hK4.mono (fun i _ h => by
      rcases h with h | h | h | h
      · exact .inl h
      · exact .inr (.inl h)
      · exact .inr (.inr h)
      · cases h)
    clear ho hK4
    have h1b := HG1.out.keeps hKa (HN.out _ (.inl rfl))
    have h2b := HG2.out.keeps hKa (HN.out _ (.inr (.inl rfl)))
    have kb := (Keeps.refl (fun i => w.heap.size ≤ i ∧ i < (((w.alloc (.cells #[.int .i64 20, .int .u64 u, .int .u64 v, .slice S n c] 28)).alloc (.cells #[.int .u64 0, .int .u64 0, .slice none 0 0, .bool false] 34)).alloc (.cells #[.int .u64 0, .int .u64 0, .slice none 0 0, .bool false] 34)).heap.size) w4)
    have HR4 := Lib.hid (And.intro hR4 (And.intro hS4 (kmore w.heap.size hKa)))
    have hXf : ∀ i, ob A4 = some i → ¬ i = w.heap.size + 2 := fun i hi h => by
      subst h
      rcases hAf with e | e
      · rw [hi] at e; cases e
      · have := e _ hi
        rw [HSZ.out] at this
        omega
    clear hR4 hS4 hKa hAf
    have hne : w.heap.size + 1 ≠ w.heap.size + 2 := by omega
    have a0 : (w4).cell? ⟨w.heap.size + 2, 0, none⟩ = some (.int .u64 0) := h2b.cell 0
    have az0 : (w4).frozen? ⟨w.heap.size + 2, 0, none⟩ = false := h2b.frozen 0
    have a1 : (w4).cell? ⟨w.heap.size + 2, 1, none⟩ = some (.int .u64 0) := h2b.cell 1
    have az1 : (w4).frozen? ⟨w.heap.size + 2, 1, none⟩ = false := h2b.frozen 1
    have a2 : (w4).cell? ⟨w.heap.size + 2, 2, none⟩ = some (.slice none 0 0) := h2b.cell 2
    have az2 : (w4).frozen? ⟨w.heap.size + 2, 2, none⟩ = false := h2b.frozen 2
    have a3 : (w4).cell? ⟨w.heap.size + 2, 3, none⟩ = some (.bool false) := h2b.cell 3
    have az3 : (w4).frozen? ⟨w.heap.size + 2, 3, none⟩ = false := h2b.frozen 3
    have al := h2b.lt
    have b0 : (w4).cell? ⟨w.heap.size + 1, 0, none⟩ = some (.int .u64 0) := h1b.cell 0
    have bz0 : (w4).frozen? ⟨w.heap.size + 1, 0, none⟩ = false := h1b.frozen 0
    have b1 : (w4).cell? ⟨w.heap.size + 1, 1, none⟩ = some (.int .u64 0) := h1b.cell 1
    have bz1 : (w4).frozen? ⟨w.heap.size + 1, 1, none⟩ = false := h1b.frozen 1
    have b2 : (w4).cell? ⟨w.heap.size + 1, 2, none⟩ = some (.slice none 0 0) := h1b.cell 2
    have bz2 : (w4).frozen? ⟨w.heap.size + 1, 2, none⟩ = false := h1b.frozen 2
    have b3 : (w4).cell? ⟨w.heap.size + 1, 3, none⟩ = some (.bool false) := h1b.cell 3
    have bz3 : (w4).frozen? ⟨w.heap.size + 1, 3, none⟩ = false := h1b.frozen 3
    have bl := h1b.lt
    have k5a := kb.setCell (p := ⟨w.heap.size + 2, 2, none⟩) (.inl ⟨by show w.heap.size ≤ w.heap.size + 2; omega, by rw [HSZ.out]; show w.heap.size + 2 < _; omega⟩) (.slice A4 s.length c4)
    have hRX := hXR.keeps ((Keeps.refl (fun i => i = w.heap.size + 2) (w4)).setCell (p := ⟨w.heap.size + 2, 2, none⟩) (.inl rfl) (.slice A4 s.length c4)) hXf
    have hw2 := h2b.put 2 (.slice A4 s.length c4)
    have hw1 := h1b.far (p := ⟨w.heap.size + 2, 2, none⟩) (by show w.heap.size + 1 ≠ w.heap.size + 2; omega) (.slice A4 s.length c4)
    have hsb := kb.size
    have n1 : 0 + s.length ≤ maxLen := by simp only [maxLen]; omega
    have n2 : (0 + s.length) * 1 ≤ 140737488355328 := by omega
    have n3 : w.heap.size ≤ ((w4).setCell ⟨w.heap.size + 2, 2, none⟩ (.slice A4 s.length c4)).heap.size := by rw [World.size_setCell]; omega
    go_wp2_with (
      at_builtin
      refine wpList_append_rd _ rfl (.const (.slice none 0 0)) (.tmp 144) _ rfl w.heap.size 5 i0 _ 1 1 Tryd.underlying22 hi0 hz0 hz1 hz2 rfl Nat.one_pos none 0 0 [] rfl (World.ownsRow_nil _ _ _ _) A4 s.length c4 _ rfl hRX (byteCells_one _) n1 n2 n3 ?_
      intro A6 c6 w6 o6 hg6 hat6
      rw [Nat.zero_add, List.nil_append] at o6
      have g2 := hw2.grown hg6 (by simp [ob])
      have g1 := hw1.grown hg6 (by simp [ob])
      have p0 : (w6).cell? ⟨w.heap.size + 2, 0, none⟩ = some (.int .u64 0) := g2.cell 0
      have pz0 : (w6).frozen? ⟨w.heap.size + 2, 0, none⟩ = false := g2.frozen 0
      have p1 : (w6).cell? ⟨w.heap.size + 2, 1, none⟩ = some (.int .u64 0) := g2.cell 1
      have pz1 : (w6).frozen? ⟨w.heap.size + 2, 1, none⟩ = false := g2.frozen 1
      have p2 : (w6).cell? ⟨w.heap.size + 2, 2, none⟩ = some (.slice A4 s.length c4) := g2.cell 2
      have pz2 : (w6).frozen? ⟨w.heap.size + 2, 2, none⟩ = false := g2.frozen 2
      have p3 : (w6).cell? ⟨w.heap.size + 2, 3, none⟩ = some (.bool false) := g2.cell 3
      have pz3 : (w6).frozen? ⟨w.heap.size + 2, 3, none⟩ = false := g2.frozen 3
      have pl := g2.lt
      have q0 : (w6).cell? ⟨w.heap.size + 1, 0, none⟩ = some (.int .u64 0) := g1.cell 0
      have qz0 : (w6).frozen? ⟨w.heap.size + 1, 0, none⟩ = false := g1.frozen 0
      have q1 : (w6).cell? ⟨w.heap.size + 1, 1, none⟩ = some (.int .u64 0) := g1.cell 1
      have qz1 : (w6).frozen? ⟨w.heap.size + 1, 1, none⟩ = false := g1.frozen 1
      have q2 : (w6).cell? ⟨w.heap.size + 1, 2, none⟩ = some (.slice none 0 0) := g1.cell 2
      have qz2 : (w6).frozen? ⟨w.heap.size + 1, 2, none⟩ = false := g1.frozen 2
      have q3 : (w6).cell? ⟨w.heap.size + 1, 3, none⟩ = some (.bool false) := g1.cell 3
      have qz3 : (w6).frozen? ⟨w.heap.size + 1, 3, none⟩ = false := g1.frozen 3
      have ql := g1.lt)
    have hA6 : ∀ i, ob A6 = some i → w4.heap.size ≤ i := fun i hi => by
      rcases hat6 with e | e
      · rw [hi] at e; cases e
      · rw [hi] at e
        injection e with e
        rw [World.size_setCell] at e
        omega
    have h4l := h2b.lt
    have r1 := (((((g1.far (p := ⟨w.heap.size + 2, 2, none⟩) (by show w.heap.size + 1 ≠ w.heap.size + 2; omega) (.slice A6 s.length c6)).put 0 (.int .u64 0)).put 1 (.int .u64 0)).put 2 (.slice A6 s.length c6)).put 3 (.bool false))
    have hld := run_loadVar_row (P := Tryd.prog) _ (w.heap.size + 1) 34 34 _ (0, 0) _ r1 Tryd.underlying34 rfl infoGot
    have kx := ((((((Keeps.refl (fun i => i = w.heap.size + 1 ∨ i = w.heap.size + 2) w6).setCell (p := ⟨w.heap.size + 2, 2, none⟩) (.inl (.inr rfl)) (.slice A6 s.length c6)).setCell (p := ⟨w.heap.size + 1, 0, none⟩) (.inl (.inl rfl)) (.int .u64 0)).setCell (p := ⟨w.heap.size + 1, 1, none⟩) (.inl (.inl rfl)) (.int .u64 0)).setCell (p := ⟨w.heap.size + 1, 2, none⟩) (.inl (.inl rfl)) (.slice A6 s.length c6)).setCell (p := ⟨w.heap.size + 1, 3, none⟩) (.inl (.inl rfl)) (.bool false))
    have k5 := ((((((k5a.grown hg6 (fun i hi => by cases hi)).setCell (p := ⟨w.heap.size + 2, 2, none⟩) (.inl ⟨by show w.heap.size ≤ w.heap.size + 2; omega, by rw [HSZ.out]; show w.heap.size + 2 < _; omega⟩) (.slice A6 s.length c6)).setCell (p := ⟨w.heap.size + 1, 0, none⟩) (.inl ⟨by show w.heap.size ≤ w.heap.size + 1; omega, by rw [HSZ.out]; show w.heap.size + 1 < _; omega⟩) (.int .u64 0)).setCell (p := ⟨w.heap.size + 1, 1, none⟩) (.inl ⟨by show w.heap.size ≤ w.heap.size + 1; omega, by rw [HSZ.out]; show w.heap.size + 1 < _; omega⟩) (.int .u64 0)).setCell (p := ⟨w.heap.size + 1, 2, none⟩) (.inl ⟨by show w.heap.size ≤ w.heap.size + 1; omega, by rw [HSZ.out]; show w.heap.size + 1 < _; omega⟩) (.slice A6 s.length c6)).setCell (p := ⟨w.heap.size + 1, 3, none⟩) (.inl ⟨by show w.heap.size ≤ w.heap.size + 1; omega, by rw [HSZ.out]; show w.heap.size + 1 < _; omega⟩) (.bool false))
    have hfin := (Rd.own o6).keeps kx (fun i hi h => by have := hA6 i hi; omega)
    exact bodyPost_ret (results_cell1 rfl _ ⟨w.heap.size + 1, 0, none⟩ _ _ rfl hld) rfl (by rw [HM.out]; exact getS_done HR.out HK0.out HR4.out.1 HR4.out.2.1 HR4.out.2.2 k5 HD.out hfin hA6)
  · have HM := Lib.hid (str_none (a := []) ho)
    clear ho
    have h1 := HG1.out.keeps hgo.keeps (HN.out _ (.inl rfl))
    have h2 := HG2.out.keeps hgo.keeps (HN.out _ (.inr (.inl rfl)))
    have hne : w.heap.size + 1 ≠ w.heap.size + 2 := by omega
    have a0 : w4.cell? ⟨w.heap.size + 2, 0, none⟩ = some (.int .u64 0) := h2.cell 0
    have a1 : w4.cell? ⟨w.heap.size + 2, 1, none⟩ = some (.int .u64 0) := h2.cell 1
    have a2 : w4.cell? ⟨w.heap.size + 2, 2, none⟩ = some (.slice none 0 0) := h2.cell 2
    have a3 : w4.cell? ⟨w.heap.size + 2, 3, none⟩ = some (.bool false) := h2.cell 3
    have b0 : w4.cell? ⟨w.heap.size + 1, 0, none⟩ = some (.int .u64 0) := h1.cell 0
    have b1 : w4.cell? ⟨w.heap.size + 1, 1, none⟩ = some (.int .u64 0) := h1.cell 1
    have b2 : w4.cell? ⟨w.heap.size + 1, 2, none⟩ = some (.slice none 0 0) := h1.cell 2
    have b3 : w4.cell? ⟨w.heap.size + 1, 3, none⟩ = some (.bool false) := h1.cell 3
    have z20 : w4.frozen? ⟨w.heap.size + 2, 0, none⟩ = false := h2.frozen 0
    have z21 : w4.frozen? ⟨w.heap.size + 2, 1, none⟩ = false := h2.frozen 1
    have z22 : w4.frozen? ⟨w.heap.size + 2, 2, none⟩ = false := h2.frozen 2
    have z10 : w4.frozen? ⟨w.heap.size + 1, 0, none⟩ = false := h1.frozen 0
    have z11 : w4.frozen? ⟨w.heap.size + 1, 1, none⟩ = false := h1.frozen 1
    have z12 : w4.frozen? ⟨w.heap.size + 1, 2, none⟩ = false := h1.frozen 2
    have z13 : w4.frozen? ⟨w.heap.size + 1, 3, none⟩ = false := h1.frozen 3
    have hl1 := h1.lt
    have hl2 := h2.lt
    go_wp2_with fail
    have r1 := (((((h1.far (p := ⟨w.heap.size + 2, 2, none⟩) (by show w.heap.size + 1 ≠ w.heap.size + 2; omega) (.slice none 0 0)).put 0 (.int .u64 0)).put 1 (.int .u64 0)).put 2 (.slice none 0 0)).put 3 (.bool true))
    have hld := run_loadVar_row (P := Tryd.prog) _ (w.heap.size + 1) 34 34 _ (0, 0) _ r1 Tryd.underlying34 rfl infoGot
    have k5 := ((((((Keeps.refl (fun i => w.heap.size ≤ i ∧ i < (((w.alloc (.cells #[.int .i64 20, .int .u64 u, .int .u64 v, .slice S n c] 28)).alloc (.cells #[.int .u64 0, .int .u64 0, .slice none 0 0, .bool false] 34)).alloc (.cells #[.int .u64 0, .int .u64 0, .slice none 0 0, .bool false] 34)).heap.size) w4).setCell (p := ⟨w.heap.size + 2, 2, none⟩) (.inl ⟨by show w.heap.size ≤ w.heap.size + 2; omega, by rw [HSZ.out]; show w.heap.size + 2 < _; omega⟩) (.slice none 0 0)).setCell (p := ⟨w.heap.size + 1, 0, none⟩) (.inl ⟨by show w.heap.size ≤ w.heap.size + 1; omega, by rw [HSZ.out]; show w.heap.size + 1 < _; omega⟩) (.int .u64 0)).setCell (p := ⟨w.heap.size + 1, 1, none⟩) (.inl ⟨by show w.heap.size ≤ w.heap.size + 1; omega, by rw [HSZ.out]; show w.heap.size + 1 < _; omega⟩) (.int .u64 0)).setCell (p := ⟨w.heap.size + 1, 2, none⟩) (.inl ⟨by show w.heap.size ≤ w.heap.size + 1; omega, by rw [HSZ.out]; show w.heap.size + 1 < _; omega⟩) (.slice none 0 0)).setCell (p := ⟨w.heap.size + 1, 3, none⟩) (.inl ⟨by show w.heap.size ≤ w.heap.size + 1; omega, by rw [HSZ.out]; show w.heap.size + 1 < _; omega⟩) (.bool true))
    have hfin := go_put HR.out HK0.out hgo k5 HD.out
    exact bodyPost_ret (results_cell1 rfl _ ⟨w.heap.size + 1, 0, none⟩ _ _ rfl hld) rfl (.inr ⟨l, HM.out, rfl, hfin⟩)
set_option maxRecDepth 100000 in
set_option maxHeartbeats 4000000 in
theorem mr22 (w : World) (base rb bb : Nat) (D R : Option Nat) (d : List UInt8) (hR : RdrOn w base rb bb D R d) (hD : ∀ i, D = some i → i < w.heap.size) (u v : Int) (S : Option Addr) (n c : Nat) (hX : ∀ x l, uvGo 10 0 0 d = some (x, l) → x ≤ 1000) (s0 : List UInt8) (hn : n = s0.length) (hPS : Rd w 1 S n (Lib.byteCells s0)) (hs0 : s0.length ≤ 1000) : Calls Tryd.prog 47 #[.agg #[.int .i64 22, .int .u64 u, .int .u64 v, .slice S n c], .pointer (some ⟨rb, 0, none⟩)] w (GetOk w base rb bb D R (strM s0 d)) := by
  subst hn
  obtain ⟨K0, hp0, hg1, hg2⟩ := start3 w 28 34 #[.int .i64 22, .int .u64 u, .int .u64 v, .slice S s0.length c] #[.int .u64 0, .int .u64 0, .slice none 0 0, .bool false] #[.int .u64 0, .int .u64 0, .slice none 0 0, .bool false]
  have HK0 := Lib.hid K0
  have HP0 := Lib.hid hp0
  have HG1 := Lib.hid hg1
  have HG2 := Lib.hid hg2
  have HR := Lib.hid hR
  have HN := Lib.hid (own_new hR)
  have HD := Lib.hid hD
  obtain ⟨i0, hi0, hz0, hz1, hz2⟩ := info_parts infoU8
  have HX0 := Lib.hid hX
  have hp3 : (((w.alloc (.cells #[.int .i64 22, .int .u64 u, .int .u64 v, .slice S s0.length c] 28)).alloc (.cells #[.int .u64 0, .int .u64 0, .slice none 0 0, .bool false] 34)).alloc (.cells #[.int .u64 0, .int .u64 0, .slice none 0 0, .bool false] 34)).cell? ⟨w.heap.size, 3, none⟩ = some (.slice S s0.length c) := hp0.cell 3
  have hpl := hp0.lt
  have hSb : ((((w.alloc (.cells #[.int .i64 22, .int .u64 u, .int .u64 v, .slice S s0.length c] 28)).alloc (.cells #[.int .u64 0, .int .u64 0, .slice none 0 0, .bool false] 34)).alloc (.cells #[.int .u64 0, .int .u64 0, .slice none 0 0, .bool false] 34)).alloc (.cells #[] 5)).ownsRow w.heap.size 5 1 (.slice (some ⟨(((w.alloc (.cells #[.int .i64 22, .int .u64 u, .int .u64 v, .slice S s0.length c] 28)).alloc (.cells #[.int .u64 0, .int .u64 0, .slice none 0 0, .bool false] 34)).alloc (.cells #[.int .u64 0, .int .u64 0, .slice none 0 0, .bool false] 34)).heap.size, 0, none⟩) 0 0) 0 [] := World.ownsRow_lit (base := w.heap.size) (e := 5) (size := 1) (((w.alloc (.cells #[.int .i64 22, .int .u64 u, .int .u64 v, .slice S s0.length c] 28)).alloc (.cells #[.int .u64 0, .int .u64 0, .slice none 0 0, .bool false] 34)).alloc (.cells #[.int .u64 0, .int .u64 0, .slice none 0 0, .bool false] 34)) #[] 0 K0.size (by decide) rfl
  rw [size3] at hSb
  have K1 := K0.alloc (.cells #[] 5)
  have hPS1 := hPS.keeps K1 (fun _ _ h => h)
  have HS0 := Lib.hid hs0
  have n1 : 0 + s0.length ≤ maxLen := by simp only [maxLen]; omega
  have n2 : (0 + s0.length) * 1 ≤ 140737488355328 := by omega
  have n3 := K1.size
  clear hR K0 hp0 hD hX
  go_enter Tryd.func47, Tryd.ntmps47
  go_wp2_with (
    at_builtin
    refine wpList_append_rd _ rfl (.tmp 132) (.tmp 134) _ rfl w.heap.size 5 i0 _ 1 1 Tryd.underlying22 hi0 hz0 hz1 hz2 rfl Nat.one_pos (some ⟨w.heap.size + 3, 0, none⟩) 0 0 [] rfl hSb S s0.length c (Lib.byteCells s0) rfl hPS1 (byteCells_one _) n1 n2 n3 ?_
    intro B cb W5 o5 hg5 hat5
    rw [Nat.zero_add, List.nil_append] at o5)
  have k0 : Keeps (fun _ => False) w W5 := K1.grown hg5 (fun i hi => .inr (by
    injection hi with hi
    have : w.heap.size + 3 = i := hi
    omega))
  have hsz5 : w.heap.size + 3 < W5.heap.size := by
    have := hg5.size
    rw [World.size_alloc, size3] at this
    omega
  have HSZ := Lib.hid hsz5
  have hg1b := (hg1.alloc (.cells #[] 5)).grown hg5 (by intro h; injection h with h; have : w.heap.size + 1 = w.heap.size + 3 := h; omega)
  have hg2b := (hg2.alloc (.cells #[] 5)).grown hg5 (by intro h; injection h with h; have : w.heap.size + 2 = w.heap.size + 3 := h; omega)
  have hBl := o5.lt
  rw [ownBlock_slice] at hBl
  have hB3 : ∀ i, ob B = some i → w.heap.size + 3 ≤ i := fun i hi => by
    rcases hat5 with e | e
    · rw [hi] at e; injection e with e; have e : i = w.heap.size + 3 := e; omega
    · rw [hi] at e; injection e with e; rw [World.size_alloc, size3] at e; omega
  have HG1 := Lib.hid hg1b
  have HG2 := Lib.hid hg2b
  have HK0 := Lib.hid k0
  have HU := Lib.hid (strAppendA W5 base rb bb D R d (HR.out.new k0) HX0.out B cb w.heap.size s0 o5 k0.size HS0.out (fun i hi => by
    have h3 := hB3 i hi
    obtain ⟨f1, f2, f3, f4, f5⟩ := HR.out.facts
    refine ⟨by omega, by omega, fun h => ?_, fun h => ?_⟩
    · have := (f5 i h).2; omega
    · have := HD.out i h; omega))
  clear o5 hg5 hat5 hg1b hg2b hg1 hg2 hPS1 hSb
  refine HU.out.mono ?_
  rintro e w4 (⟨s1, l, A4, c4, R4, ho, rfl, hXR, hR4, hS4, hK4, hAf⟩ | ⟨x, l, ho, rfl, ⟨a, rfl⟩, hgo⟩)
  · have hsn1 : s1.length ≤ 1000 := cutS_len ho HX0.out
    obtain ⟨s, hs⟩ : ∃ s, s = s0 ++ s1 := ⟨_, rfl⟩
    have HM := Lib.hid (show strM s0 d = some (0, 0, s, l) by rw [strM, ho, hs]; rfl)
    have hsn : s.length ≤ 2000 := by rw [hs, List.length_append]; have := HS0.out; omega
    rw [← hs] at hXR
    rw [← hs]
    clear ho hs
    have h1b := HG1.out.keeps hK4 (fun h => by
      rcases h with h | h | h | h
      · exact HN.out _ (.inl rfl) (.inl h)
      · exact HN.out _ (.inl rfl) (.inr (.inl h))
      · exact HN.out _ (.inl rfl) (.inr (.inr h))
      · have := hB3 _ h; omega)
    have h2b := HG2.out.keeps hK4 (fun h => by
      rcases h with h | h | h | h
      · exact HN.out _ (.inr (.inl rfl)) (.inl h)
      · exact HN.out _ (.inr (.inl rfl)) (.inr (.inl h))
      · exact HN.out _ (.inr (.inl rfl)) (.inr (.inr h))
      · have := hB3 _ h; omega)
    have kb := (Keeps.refl (fun i => w.heap.size ≤ i ∧ i < W5.heap.size) w4)
    have HR4 := Lib.hid (And.intro hR4 (And.intro hS4 (hK4.mono (S' := fun i => i = rb ∨ i = bb ∨ R = some i ∨ w.heap.size ≤ i) (fun i _ h => by
      rcases h with h | h | h | h
      · exact .inl h
      · exact .inr (.inl h)
      · exact .inr (.inr (.inl h))
      · exact .inr (.inr (.inr (by have := hB3 _ h; omega)))))))
    have hXf : ∀ i, ob A4 = some i → ¬ i = w.heap.size + 2 := fun i hi h => by
      subst h
      rcases hAf with e | e
      · have := hB3 _ (e ▸ hi); omega
      · have := e _ hi; have := HSZ.out; omega
    clear hR4 hS4 hK4 hAf
    have hne : w.heap.size + 1 ≠ w.heap.size + 2 := by omega
    have a0 : (w4).cell? ⟨w.heap.size + 2, 0, none⟩ = some (.int .u64 0) := h2b.cell 0
    have az0 : (w4).frozen? ⟨w.heap.size + 2, 0, none⟩ = false := h2b.frozen 0
    have a1 : (w4).cell? ⟨w.heap.size + 2, 1, none⟩ = some (.int .u64 0) := h2b.cell 1
    have az1 : (w4).frozen? ⟨w.heap.size + 2, 1, none⟩ = false := h2b.frozen 1
    have a2 : (w4).cell? ⟨w.heap.size + 2, 2, none⟩ = some (.slice none 0 0) := h2b.cell 2
    have az2 : (w4).frozen? ⟨w.heap.size + 2, 2, none⟩ = false := h2b.frozen 2
    have a3 : (w4).cell? ⟨w.heap.size + 2, 3, none⟩ = some (.bool false) := h2b.cell 3
    have az3 : (w4).frozen? ⟨w.heap.size + 2, 3, none⟩ = false := h2b.frozen 3
    have al := h2b.lt
    have b0 : (w4).cell? ⟨w.heap.size + 1, 0, none⟩ = some (.int .u64 0) := h1b.cell 0
    have bz0 : (w4).frozen? ⟨w.heap.size + 1, 0, none⟩ = false := h1b.frozen 0
    have b1 : (w4).cell? ⟨w.heap.size + 1, 1, none⟩ = some (.int .u64 0) := h1b.cell 1
    have bz1 : (w4).frozen? ⟨w.heap.size + 1, 1, none⟩ = false := h1b.frozen 1
    have b2 : (w4).cell? ⟨w.heap.size + 1, 2, none⟩ = some (.slice none 0 0) := h1b.cell 2
    have bz2 : (w4).frozen? ⟨w.heap.size + 1, 2, none⟩ = false := h1b.frozen 2
    have b3 : (w4).cell? ⟨w.heap.size + 1, 3, none⟩ = some (.bool false) := h1b.cell 3
    have bz3 : (w4).frozen? ⟨w.heap.size + 1, 3, none⟩ = false := h1b.frozen 3
    have bl := h1b.lt
    have k5a := kb.setCell (p := ⟨w.heap.size + 2, 2, none⟩) (.inl ⟨by show w.heap.size ≤ w.heap.size + 2; omega, by have := HSZ.out; show w.heap.size + 2 < _; omega⟩) (.slice A4 s.length c4)
    have hRX := hXR.keeps ((Keeps.refl (fun i => i = w.heap.size + 2) (w4)).setCell (p := ⟨w.heap.size + 2, 2, none⟩) (.inl rfl) (.slice A4 s.length c4)) hXf
    have hw2 := h2b.put 2 (.slice A4 s.length c4)
    have hw1 := h1b.far (p := ⟨w.heap.size + 2, 2, none⟩) (by show w.heap.size + 1 ≠ w.heap.size + 2; omega) (.slice A4 s.length c4)
    have hsb := kb.size
    have n1 : 0 + s.length ≤ maxLen := by simp only [maxLen]; omega
    have n2 : (0 + s.length) * 1 ≤ 140737488355328 := by omega
    have n3 : w.heap.size ≤ ((w4).setCell ⟨w.heap.size + 2, 2, none⟩ (.slice A4 s.length c4)).heap.size := by rw [World.size_setCell]; omega
    go_wp2_with (
      at_builtin
      refine wpList_append_rd _ rfl (.const (.slice none 0 0)) (.tmp 144) _ rfl w.heap.size 5 i0 _ 1 1 Tryd.underlying22 hi0 hz0 hz1 hz2 rfl Nat.one_pos none 0 0 [] rfl (World.ownsRow_nil _ _ _ _) A4 s.length c4 _ rfl hRX (byteCells_one _) n1 n2 n3 ?_
      intro A6 c6 w6 o6 hg6 hat6
      rw [Nat.zero_add, List.nil_append] at o6
      have g2 := hw2.grown hg6 (by simp [ob])
      have g1 := hw1.grown hg6 (by simp [ob])
      have p0 : (w6).cell? ⟨w.heap.size + 2, 0, none⟩ = some (.int .u64 0) := g2.cell 0
      have pz0 : (w6).frozen? ⟨w.heap.size + 2, 0, none⟩ = false := g2.frozen 0
      have p1 : (w6).cell? ⟨w.heap.size + 2, 1, none⟩ = some (.int .u64 0) := g2.cell 1
      have pz1 : (w6).frozen? ⟨w.heap.size + 2, 1, none⟩ = false := g2.frozen 1
      have p2 : (w6).cell? ⟨w.heap.size + 2, 2, none⟩ = some (.slice A4 s.length c4) := g2.cell 2
      have pz2 : (w6).frozen? ⟨w.heap.size + 2, 2, none⟩ = false := g2.frozen 2
      have p3 : (w6).cell? ⟨w.heap.size + 2, 3, none⟩ = some (.bool false) := g2.cell 3
      have pz3 : (w6).frozen? ⟨w.heap.size + 2, 3, none⟩ = false := g2.frozen 3
      have pl := g2.lt
      have q0 : (w6).cell? ⟨w.heap.size + 1, 0, none⟩ = some (.int .u64 0) := g1.cell 0
      have qz0 : (w6).frozen? ⟨w.heap.size + 1, 0, none⟩ = false := g1.frozen 0
      have q1 : (w6).cell? ⟨w.heap.size + 1, 1, none⟩ = some (.int .u64 0) := g1.cell 1
      have qz1 : (w6).frozen? ⟨w.heap.size + 1, 1, none⟩ = false := g1.frozen 1
      have q2 : (w6).cell? ⟨w.heap.size + 1, 2, none⟩ = some (.slice none 0 0) := g1.cell 2
      have qz2 : (w6).frozen? ⟨w.heap.size + 1, 2, none⟩ = false := g1.frozen 2
      have q3 : (w6).cell? ⟨w.heap.size + 1, 3, none⟩ = some (.bool false) := g1.cell 3
      have qz3 : (w6).frozen? ⟨w.heap.size + 1, 3, none⟩ = false := g1.frozen 3
      have ql := g1.lt)
    have hA6 : ∀ i, ob A6 = some i → w4.heap.size ≤ i := fun i hi => by
      rcases hat6 with e | e
      · rw [hi] at e; cases e
      · rw [hi] at e
        injection e with e
        rw [World.size_setCell] at e
        omega
    have h4l := h2b.lt
    have r1 := (((((g1.far (p := ⟨w.heap.size + 2, 2, none⟩) (by show w.heap.size + 1 ≠ w.heap.size + 2; omega) (.slice A6 s.length c6)).put 0 (.int .u64 0)).put 1 (.int .u64 0)).put 2 (.slice A6 s.length c6)).put 3 (.bool false))
    have hld := run_loadVar_row (P := Tryd.prog) _ (w.heap.size + 1) 34 34 _ (0, 0) _ r1 Tryd.underlying34 rfl infoGot
    have kx := ((((((Keeps.refl (fun i => i = w.heap.size + 1 ∨ i = w.heap.size + 2) w6).setCell (p := ⟨w.heap.size + 2, 2, none⟩) (.inl (.inr rfl)) (.slice A6 s.length c6)).setCell (p := ⟨w.heap.size + 1, 0, none⟩) (.inl (.inl rfl)) (.int .u64 0)).setCell (p := ⟨w.heap.size + 1, 1, none⟩) (.inl (.inl rfl)) (.int .u64 0)).setCell (p := ⟨w.heap.size + 1, 2, none⟩) (.inl (.inl rfl)) (.slice A6 s.length c6)).setCell (p := ⟨w.heap.size + 1, 3, none⟩) (.inl (.inl rfl)) (.bool false))
    have k5 := ((((((k5a.grown hg6 (fun i hi => by cases hi)).setCell (p := ⟨w.heap.size + 2, 2, none⟩) (.inl ⟨by show w.heap.size ≤ w.heap.size + 2; omega, by have := HSZ.out; show w.heap.size + 2 < _; omega⟩) (.slice A6 s.length c6)).setCell (p := ⟨w.heap.size + 1, 0, none⟩) (.inl ⟨by show w.heap.size ≤ w.heap.size + 1; omega, by have := HSZ.out; show w.heap.size + 1 < _; omega⟩) (.int .u64 0)).setCell (p := ⟨w.heap.size + 1, 1, none⟩) (.inl ⟨by show w.heap.size ≤ w.heap.size + 1; omega, by have := HSZ.out; show w.heap.size + 1 < _; omega⟩) (.int .u64 0)).setCell (p := ⟨w.heap.size + 1, 2, none⟩) (.inl ⟨by show w.heap.size ≤ w.heap.size + 1; omega, by have := HSZ.out; show w.heap.size + 1 < _; omega⟩) (.slice A6 s.length c6)).setCell (p := ⟨w.heap.size + 1, 3, none⟩) (.inl ⟨by show w.heap.size ≤ w.heap.size + 1; omega, by have := HSZ.out; show w.heap.size + 1 < _; omega⟩) (.bool false))
    have hfin := (Rd.own o6).keeps kx (fun i hi h => by have := hA6 i hi; omega)
    exact bodyPost_ret (results_cell1 rfl _ ⟨w.heap.size + 1, 0, none⟩ _ _ rfl hld) rfl (by rw [HM.out]; exact getS_done HR.out HK0.out HR4.out.1 HR4.out.2.1 HR4.out.2.2 k5 HD.out hfin hA6)
  · have HM := Lib.hid (str_none (a := s0) ho)
    clear ho
    have h1 := HG1.out.keeps hgo.keeps (HN.out _ (.inl rfl))
    have h2 := HG2.out.keeps hgo.keeps (HN.out _ (.inr (.inl rfl)))
    have hne : w.heap.size + 1 ≠ w.heap.size + 2 := by omega
    have a0 : w4.cell? ⟨w.heap.size + 2, 0, none⟩ = some (.int .u64 0) := h2.cell 0
    have a1 : w4.cell? ⟨w.heap.size + 2, 1, none⟩ = some (.int .u64 0) := h2.cell 1
    have a2 : w4.cell? ⟨w.heap.size + 2, 2, none⟩ = some (.slice none 0 0) := h2.cell 2
    have a3 : w4.cell? ⟨w.heap.size + 2, 3, none⟩ = some (.bool false) := h2.cell 3
    have b0 : w4.cell? ⟨w.heap.size + 1, 0, none⟩ = some (.int .u64 0) := h1.cell 0
    have b1 : w4.cell? ⟨w.heap.size + 1, 1, none⟩ = some (.int .u64 0) := h1.cell 1
    have b2 : w4.cell? ⟨w.heap.size + 1, 2, none⟩ = some (.slice none 0 0) := h1.cell 2
    have b3 : w4.cell? ⟨w.heap.size + 1, 3, none⟩ = some (.bool false) := h1.cell 3
    have z20 : w4.frozen? ⟨w.heap.size + 2, 0, none⟩ = false := h2.frozen 0
    have z21 : w4.frozen? ⟨w.heap.size + 2, 1, none⟩ = false := h2.frozen 1
    have z22 : w4.frozen? ⟨w.heap.size + 2, 2, none⟩ = false := h2.frozen 2
    have z10 : w4.frozen? ⟨w.heap.size + 1, 0, none⟩ = false := h1.frozen 0
    have z11 : w4.frozen? ⟨w.heap.size + 1, 1, none⟩ = false := h1.frozen 1
    have z12 : w4.frozen? ⟨w.heap.size + 1, 2, none⟩ = false := h1.frozen 2
    have z13 : w4.frozen? ⟨w.heap.size + 1, 3, none⟩ = false := h1.frozen 3
    have hl1 := h1.lt
    have hl2 := h2.lt
    go_wp2_with fail
    have r1 := (((((h1.far (p := ⟨w.heap.size + 2, 2, none⟩) (by show w.heap.size + 1 ≠ w.heap.size + 2; omega) (.slice none 0 0)).put 0 (.int .u64 0)).put 1 (.int .u64 0)).put 2 (.slice none 0 0)).put 3 (.bool true))
    have hld := run_loadVar_row (P := Tryd.prog) _ (w.heap.size + 1) 34 34 _ (0, 0) _ r1 Tryd.underlying34 rfl infoGot
    have k5 := ((((((Keeps.refl (fun i => w.heap.size ≤ i ∧ i < W5.heap.size) w4).setCell (p := ⟨w.heap.size + 2, 2, none⟩) (.inl ⟨by show w.heap.size ≤ w.heap.size + 2; omega, by have := HSZ.out; show w.heap.size + 2 < _; omega⟩) (.slice none 0 0)).setCell (p := ⟨w.heap.size + 1, 0, none⟩) (.inl ⟨by show w.heap.size ≤ w.heap.size + 1; omega, by have := HSZ.out; show w.heap.size + 1 < _; omega⟩) (.int .u64 0)).setCell (p := ⟨w.heap.size + 1, 1, none⟩) (.inl ⟨by show w.heap.size ≤ w.heap.size + 1; omega, by have := HSZ.out; show w.heap.size + 1 < _; omega⟩) (.int .u64 0)).setCell (p := ⟨w.heap.size + 1, 2, none⟩) (.inl ⟨by show w.heap.size ≤ w.heap.size + 1; omega, by have := HSZ.out; show w.heap.size + 1 < _; omega⟩) (.slice none 0 0)).setCell (p := ⟨w.heap.size + 1, 3, none⟩) (.inl ⟨by show w.heap.size ≤ w.heap.size + 1; omega, by have := HSZ.out; show w.heap.size + 1 < _; omega⟩) (.bool true))
    have hfin := go_put HR.out HK0.out hgo k5 HD.out
    exact bodyPost_ret (results_cell1 rfl _ ⟨w.heap.size + 1, 0, none⟩ _ _ rfl hld) rfl (.inr ⟨l, HM.out, rfl, hfin⟩)
end Go.Proofs.YthfoleapdmpdfaaDoor
