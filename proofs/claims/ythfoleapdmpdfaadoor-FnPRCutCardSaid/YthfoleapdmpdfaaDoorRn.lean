/- The arms of Prim.more that read strings and raw bytes. Conditions: those of the reader; lengths are at most 1000. -/
import Derived.Test.YthfoleapdmpdfaaDoorRm
import Derived.Test.YthfoleapdmpdfaaDoorClone
namespace Go.Proofs.YthfoleapdmpdfaaDoor
open Go.RowKit Go.Lib
set_option linter.unusedVariables false
theorem cutR_len {n : Nat} {d s l : List UInt8} (h : cutR n d = some (s, l)) (hn : n ≤ 1000) : s.length ≤ 1000 := by
  unfold cutR at h
  split at h
  · cases h
  · injection h with h
    injection h with h1 h2
    rw [← h1, List.length_take]
    omega
theorem cutS_len {d s l : List UInt8} (h : cutS d = some (s, l)) (hx : ∀ x l, uvGo 10 0 0 d = some (x, l) → x ≤ 1000) : s.length ≤ 1000 := by
  unfold cutS at h
  split at h
  · cases h
  · rename_i x l' hu
    have := hx x l' hu
    split at h
    · cases h
    · injection h with h
      injection h with h1 h2
      rw [← h1, List.length_take]
      omega
theorem conv_bytesR (y : ByteArray) : ∃ (cp : World → Nat) (cw : World → World), ∀ W, (convert 9 22 (.string y)).run Tryd.prog W = .ok (.slice (some ⟨W.heap.size, 0, none⟩) y.size (cp W)) (cw W) ∧ Keeps (fun _ => False) W (cw W) ∧ (cw W).heap.size = W.heap.size + 1 ∧ Rd (cw W) 1 (some ⟨W.heap.size, 0, none⟩) (sl y).length (Lib.byteCells (sl y)) := by
  refine ⟨fun W => grownCap W y.size 0 5, fun W => W.drew.alloc (.cells (bytesRow y (grownCap W y.size 0 5)) 5 ((bytesRow y (grownCap W y.size 0 5)).size, (bytesRow y (grownCap W y.size 0 5)).size + 1)), fun W => ⟨?_, ((Keeps.refl (fun _ => False) W).drew).alloc _, by simp, ?_⟩⟩
  · exact run_bytes_of_string (P := Tryd.prog) W 9 22 5 y Tryd.underlying9 Tryd.underlying22 Tryd.underlying5
  · refine ⟨by simp [Lib.byteCells], fun _ => ⟨_, rfl, by simp, fun j u hu => ?_⟩⟩
    rw [add_lit', Nat.zero_add]
    refine (cell_of_row _ W.heap.size j _ _ _ (heap_alloc_new W.drew _)).trans ?_
    have hj : j < y.data.size := by
      have h := List.getElem?_eq_some_iff.1 hu
      obtain ⟨h, _⟩ := h
      simpa [Lib.byteCells, sl] using h
    rw [bytesRow, Array.getElem?_append_left (by simpa using hj)]
    rw [← hu]
    simp [Lib.byteCells, sl]
theorem gmono {a b c e : Prop} (h : a ∨ b ∨ c) : a ∨ b ∨ c ∨ e := by
  rcases h with h | h | h
  · exact .inl h
  · exact .inr (.inl h)
  · exact .inr (.inr (.inl h))
theorem kmore {W w4 : World} {rb bb : Nat} {R : Option Nat} (n : Nat) (h : Keeps (fun i => i = rb ∨ i = bb ∨ R = some i) W w4) : Keeps (fun i => i = rb ∨ i = bb ∨ R = some i ∨ n ≤ i) W w4 := h.mono fun _ _ h => gmono h
theorem getS_done {w W w4 w5 : World} {base rb bb : Nat} {D R R' : Option Nat} {d l S : List UInt8} {A : Option Addr} {c : Nat} (hR : RdrOn w base rb bb D R d) (kw : Keeps (fun _ => False) w W) (hR4 : RdrOn w4 base rb bb D R' l) (hS : R' = R ∨ ∀ i, R' = some i → W.heap.size ≤ i)
    (hk : Keeps (fun i => i = rb ∨ i = bb ∨ R = some i ∨ w.heap.size ≤ i) W w4) (k5 : Keeps (fun i => w.heap.size ≤ i ∧ i < W.heap.size) w4 w5) (hD : ∀ i, D = some i → i < w.heap.size) (hA : Rd w5 1 A S.length (Lib.byteCells S)) (hn : ∀ i, ob A = some i → w4.heap.size ≤ i) :
    GetOk w base rb bb D R (some (0, 0, S, l)) (.returned (.agg #[.int .u64 0, .int .u64 0, .slice A S.length c, .bool false])) w5 := by
  obtain ⟨f1, f2, f3, f4, f5⟩ := hR.facts
  refine .inl ⟨0, 0, S, l, A, c, R', rfl, rfl, ?_, ?_, ?_, hA, ?_⟩
  · refine hR4.keeps k5 (by omega) (by omega) ?_ ?_
    · rintro i hi h
      rcases hS with rfl | hS
      · have := (f5 i hi).2; omega
      · have := hS i hi; omega
    · intro i hi h
      have := hD i hi
      omega
  · rcases hS with h | hS
    · exact .inl h
    · exact .inr fun i hi => Nat.le_trans kw.size (hS i hi)
  · refine ((kw.mono (S' := fun i => i = rb ∨ i = bb ∨ R = some i) (fun _ _ h => h.elim)).trans hk (fun i hi h => ?_)).trans k5 (fun i hi h => by omega)
    rcases h with h | h | h | h
    · exact .inl h
    · exact .inr (.inl h)
    · exact .inr (.inr h)
    · omega
  · intro i hi
    have h4 := hn i hi
    have h5 := hk.size
    have h6 := kw.size
    refine ⟨by omega, fun h => ?_⟩
    have := (hR4.facts.2.2.2.2 i h).2
    omega
theorem str_some {d l : List UInt8} {v : Value} (h : fixS d = some (v, l)) : ∃ s : ByteArray, v = .string s ∧ cutS d = some (sl s, l) := by
  unfold fixS at h
  obtain ⟨⟨s, l2⟩, h1, h2⟩ := Option.map_eq_some_iff.mp h
  injection h2 with h2 h3
  subst h3
  exact ⟨⟨s.toArray⟩, h2.symm, by rw [h1]; simp [sl]⟩
theorem str_one {d l s : List UInt8} (h : cutS d = some (s, l)) : strM [] d = some (0, 0, s, l) := by rw [strM, h]; rfl
theorem str_none {d a : List UInt8} (h : cutS d = none) : strM a d = none := by rw [strM, h]; rfl
set_option maxRecDepth 100000 in
set_option maxHeartbeats 4000000 in
theorem mr18 (w : World) (base rb bb : Nat) (D R : Option Nat) (d : List UInt8) (hR : RdrOn w base rb bb D R d) (hD : ∀ i, D = some i → i < w.heap.size) (u v : Int) (S : Option Addr) (n c : Nat) (hX : ∀ x l, uvGo 10 0 0 d = some (x, l) → x ≤ 1000) : Calls Tryd.prog 47 #[.agg #[.int .i64 18, .int .u64 u, .int .u64 v, .slice S n c], .pointer (some ⟨rb, 0, none⟩)] w (GetOk w base rb bb D R (strM [] d)) := by
  obtain ⟨K0, hp0, hg1, hg2⟩ := start3 w 28 34 #[.int .i64 18, .int .u64 u, .int .u64 v, .slice S n c] #[.int .u64 0, .int .u64 0, .slice none 0 0, .bool false] #[.int .u64 0, .int .u64 0, .slice none 0 0, .bool false]
  have HK0 := Lib.hid K0
  have HP0 := Lib.hid hp0
  have HG1 := Lib.hid hg1
  have HG2 := Lib.hid hg2
  have HR := Lib.hid hR
  have HN := Lib.hid (own_new hR)
  have HD := Lib.hid hD
  obtain ⟨i0, hi0, hz0, hz1, hz2⟩ := info_parts infoU8
  have HU := Lib.hid (rwStr _ base rb bb D R d (hR.new K0) hX)
  have HSZ := Lib.hid (size3 w (.cells #[.int .i64 18, .int .u64 u, .int .u64 v, .slice S n c] 28) (.cells #[.int .u64 0, .int .u64 0, .slice none 0 0, .bool false] 34) (.cells #[.int .u64 0, .int .u64 0, .slice none 0 0, .bool false] 34))
  clear hR K0 hp0 hg1 hg2 hD
  have HX0 := Lib.hid hX
  clear hX
  go_enter Tryd.func47, Tryd.ntmps47
  go_wp2_with fail
  refine HU.out.mono ?_
  rintro e w4 (⟨y, l, ho, rfl, hgo⟩ | ⟨x, l, ho, rfl, ⟨a, rfl⟩, hgo⟩)
  · obtain ⟨s0, hy, hcu⟩ := str_some ho
    subst hy
    have hs0 : s0.size ≤ 1000 := by
      have := cutS_len hcu HX0.out
      rw [sl_length] at this
      exact this
    have HM0 := Lib.hid (str_one hcu)
    clear ho hcu
    have h1 := HG1.out.keeps hgo.keeps (HN.out _ (.inl rfl))
    have h2 := HG2.out.keeps hgo.keeps (HN.out _ (.inr (.inl rfl)))
    obtain ⟨cp, cw, hcw⟩ := conv_bytesR s0
    obtain ⟨s, hs⟩ : ∃ s, s = sl s0 := ⟨_, rfl⟩
    have hsl : s0.size = s.length := by rw [hs, sl_length]
    have hcv : (convert 9 22 (.string s0)).run Tryd.prog w4 = .ok (.slice (some ⟨w4.heap.size, 0, none⟩) s.length (cp w4)) (cw w4) := by rw [← hsl]; exact (hcw w4).1
    have hkw := (hcw w4).2.1
    have hXR := (hcw w4).2.2.2
    rw [← hs] at hXR
    have HM := Lib.hid (show strM [] d = some (0, 0, s, l) by rw [HM0.out, hs])
    have hsn : s.length ≤ 1000 := by omega
    clear hcw hs hsl
    have h1b := h1.keeps hkw (fun h => h)
    have h2b := h2.keeps hkw (fun h => h)
    have kb := (Keeps.refl (fun i => w.heap.size ≤ i ∧ i < (((w.alloc (.cells #[.int .i64 18, .int .u64 u, .int .u64 v, .slice S n c] 28)).alloc (.cells #[.int .u64 0, .int .u64 0, .slice none 0 0, .bool false] 34)).alloc (.cells #[.int .u64 0, .int .u64 0, .slice none 0 0, .bool false] 34)).heap.size) w4).trans hkw (fun i hi h => h.elim)
    obtain ⟨R4, hR4, hS4⟩ := hgo.on
    have HR4 := Lib.hid (And.intro hR4 (And.intro hS4 (kmore w.heap.size hgo.keeps)))
    have h4s := h2.lt
    have hXf : ∀ i, ob (some (⟨w4.heap.size, 0, none⟩ : Addr)) = some i → ¬ i = w.heap.size + 2 := fun i hi h => by
      injection hi with hi
      have hi2 : w4.heap.size = i := hi
      omega
    clear hgo hR4 hS4
    have hne : w.heap.size + 1 ≠ w.heap.size + 2 := by omega
    have a0 : (cw w4).cell? ⟨w.heap.size + 2, 0, none⟩ = some (.int .u64 0) := h2b.cell 0
    have az0 : (cw w4).frozen? ⟨w.heap.size + 2, 0, none⟩ = false := h2b.frozen 0
    have a1 : (cw w4).cell? ⟨w.heap.size + 2, 1, none⟩ = some (.int .u64 0) := h2b.cell 1
    have az1 : (cw w4).frozen? ⟨w.heap.size + 2, 1, none⟩ = false := h2b.frozen 1
    have a2 : (cw w4).cell? ⟨w.heap.size + 2, 2, none⟩ = some (.slice none 0 0) := h2b.cell 2
    have az2 : (cw w4).frozen? ⟨w.heap.size + 2, 2, none⟩ = false := h2b.frozen 2
    have a3 : (cw w4).cell? ⟨w.heap.size + 2, 3, none⟩ = some (.bool false) := h2b.cell 3
    have az3 : (cw w4).frozen? ⟨w.heap.size + 2, 3, none⟩ = false := h2b.frozen 3
    have al := h2b.lt
    have b0 : (cw w4).cell? ⟨w.heap.size + 1, 0, none⟩ = some (.int .u64 0) := h1b.cell 0
    have bz0 : (cw w4).frozen? ⟨w.heap.size + 1, 0, none⟩ = false := h1b.frozen 0
    have b1 : (cw w4).cell? ⟨w.heap.size + 1, 1, none⟩ = some (.int .u64 0) := h1b.cell 1
    have bz1 : (cw w4).frozen? ⟨w.heap.size + 1, 1, none⟩ = false := h1b.frozen 1
    have b2 : (cw w4).cell? ⟨w.heap.size + 1, 2, none⟩ = some (.slice none 0 0) := h1b.cell 2
    have bz2 : (cw w4).frozen? ⟨w.heap.size + 1, 2, none⟩ = false := h1b.frozen 2
    have b3 : (cw w4).cell? ⟨w.heap.size + 1, 3, none⟩ = some (.bool false) := h1b.cell 3
    have bz3 : (cw w4).frozen? ⟨w.heap.size + 1, 3, none⟩ = false := h1b.frozen 3
    have bl := h1b.lt
    have k5a := kb.setCell (p := ⟨w.heap.size + 2, 2, none⟩) (.inl ⟨by show w.heap.size ≤ w.heap.size + 2; omega, by rw [HSZ.out]; show w.heap.size + 2 < _; omega⟩) (.slice (some ⟨w4.heap.size, 0, none⟩) s.length (cp w4))
    have hRX := hXR.keeps ((Keeps.refl (fun i => i = w.heap.size + 2) (cw w4)).setCell (p := ⟨w.heap.size + 2, 2, none⟩) (.inl rfl) (.slice (some ⟨w4.heap.size, 0, none⟩) s.length (cp w4))) hXf
    have hw2 := h2b.put 2 (.slice (some ⟨w4.heap.size, 0, none⟩) s.length (cp w4))
    have hw1 := h1b.far (p := ⟨w.heap.size + 2, 2, none⟩) (by show w.heap.size + 1 ≠ w.heap.size + 2; omega) (.slice (some ⟨w4.heap.size, 0, none⟩) s.length (cp w4))
    have hsb := kb.size
    have n1 : 0 + s.length ≤ maxLen := by simp only [maxLen]; omega
    have n2 : (0 + s.length) * 1 ≤ 140737488355328 := by omega
    have n3 : w.heap.size ≤ ((cw w4).setCell ⟨w.heap.size + 2, 2, none⟩ (.slice (some ⟨w4.heap.size, 0, none⟩) s.length (cp w4))).heap.size := by rw [World.size_setCell]; omega
    go_wp2_with (
      at_builtin
      refine wpList_append_rd _ rfl (.const (.slice none 0 0)) (.tmp 144) _ rfl w.heap.size 5 i0 _ 1 1 Tryd.underlying22 hi0 hz0 hz1 hz2 rfl Nat.one_pos none 0 0 [] rfl (World.ownsRow_nil _ _ _ _) (some ⟨w4.heap.size, 0, none⟩) s.length (cp w4) _ rfl hRX (byteCells_one _) n1 n2 n3 ?_
      intro A6 c6 w6 o6 hg6 hat6
      rw [Nat.zero_add, List.nil_append] at o6
      have g2 := hw2.grown hg6 (by simp [ob])
      have g1 := hw1.grown hg6 (by simp [ob])
      have p0 : (w6).cell? ⟨w.heap.size + 2, 0, none⟩ = some (.int .u64 0) := g2.cell 0
      have pz0 : (w6).frozen? ⟨w.heap.size + 2, 0, none⟩ = false := g2.frozen 0
      have p1 : (w6).cell? ⟨w.heap.size + 2, 1, none⟩ = some (.int .u64 0) := g2.cell 1
      have pz1 : (w6).frozen? ⟨w.heap.size + 2, 1, none⟩ = false := g2.frozen 1
      have p2 : (w6).cell? ⟨w.heap.size + 2, 2, none⟩ = some (.slice (some ⟨w4.heap.size, 0, none⟩) s.length (cp w4)) := g2.cell 2
      have pz2 : (w6).frozen? ⟨w.heap.size + 2, 2, none⟩ = false := g2.frozen 2
      have p3 : (w6).cell? ⟨w.heap.size + 2, 3, none⟩ = some (.bool false) := g2.cell 3
      have pz3 : (w6).frozen? ⟨w.heap.size + 2, 3, none⟩ = false := g2.frozen 3
      have pl := g2.lt
      have q0 : (w6).cell? ⟨w.heap.size + 1, 0, none⟩ = some (.int .u64 0) := g1.cell 0
      have qz0 : (w6).frozen? ⟨w.heap.size + 1, 0, none⟩ = false := g1.frozen 0
      have q1 : (w6).cell? ⟨w.heap.size + 1, 1, none⟩ = some (.int .u64 0) := g1.cell 1
      have qz1 : (w6).frozen? ⟨w.heap.size + 1, 1, none⟩ = false := g1.frozen 1
      have q2 : (w6).cell? ⟨w.heap.size + 1, 2, none⟩ = some (.slice none 0 0) := g1.cell 2
      have qz2 : (w6).frozen? ⟨w.heap.size + 1, 2, none⟩ = false := g1.frozen 2
      have q3 : (w6).cell? ⟨w.heap.size + 1, 3, none⟩ = some (.bool false) := g1.cell 3
      have qz3 : (w6).frozen? ⟨w.heap.size + 1, 3, none⟩ = false := g1.frozen 3
      have ql := g1.lt)
    have hA6 : ∀ i, ob A6 = some i → w4.heap.size ≤ i := fun i hi => by
      rcases hat6 with e | e
      · rw [hi] at e; cases e
      · rw [hi] at e
        injection e with e
        rw [World.size_setCell] at e
        omega
    have h4l := h2b.lt
    have r1 := (((((g1.far (p := ⟨w.heap.size + 2, 2, none⟩) (by show w.heap.size + 1 ≠ w.heap.size + 2; omega) (.slice A6 s.length c6)).put 0 (.int .u64 0)).put 1 (.int .u64 0)).put 2 (.slice A6 s.length c6)).put 3 (.bool false))
    have hld := run_loadVar_row (P := Tryd.prog) _ (w.heap.size + 1) 34 34 _ (0, 0) _ r1 Tryd.underlying34 rfl infoGot
    have kx := ((((((Keeps.refl (fun i => i = w.heap.size + 1 ∨ i = w.heap.size + 2) w6).setCell (p := ⟨w.heap.size + 2, 2, none⟩) (.inl (.inr rfl)) (.slice A6 s.length c6)).setCell (p := ⟨w.heap.size + 1, 0, none⟩) (.inl (.inl rfl)) (.int .u64 0)).setCell (p := ⟨w.heap.size + 1, 1, none⟩) (.inl (.inl rfl)) (.int .u64 0)).setCell (p := ⟨w.heap.size + 1, 2, none⟩) (.inl (.inl rfl)) (.slice A6 s.length c6)).setCell (p := ⟨w.heap.size + 1, 3, none⟩) (.inl (.inl rfl)) (.bool false))
    have k5 := ((((((k5a.grown hg6 (fun i hi => by cases hi)).setCell (p := ⟨w.heap.size + 2, 2, none⟩) (.inl ⟨by show w.heap.size ≤ w.heap.size + 2; omega, by rw [HSZ.out]; show w.heap.size + 2 < _; omega⟩) (.slice A6 s.length c6)).setCell (p := ⟨w.heap.size + 1, 0, none⟩) (.inl ⟨by show w.heap.size ≤ w.heap.size + 1; omega, by rw [HSZ.out]; show w.heap.size + 1 < _; omega⟩) (.int .u64 0)).setCell (p := ⟨w.heap.size + 1, 1, none⟩) (.inl ⟨by show w.heap.size ≤ w.heap.size + 1; omega, by rw [HSZ.out]; show w.heap.size + 1 < _; omega⟩) (.int .u64 0)).setCell (p := ⟨w.heap.size + 1, 2, none⟩) (.inl ⟨by show w.heap.size ≤ w.heap.size + 1; omega, by rw [HSZ.out]; show w.heap.size + 1 < _; omega⟩) (.slice A6 s.length c6)).setCell (p := ⟨w.heap.size + 1, 3, none⟩) (.inl ⟨by show w.heap.size ≤ w.heap.size + 1; omega, by rw [HSZ.out]; show w.heap.size + 1 < _; omega⟩) (.bool false))
    have hfin := (Rd.own o6).keeps kx (fun i hi h => by have := hA6 i hi; omega)
    exact bodyPost_ret (results_cell1 rfl _ ⟨w.heap.size + 1, 0, none⟩ _ _ rfl hld) rfl (by rw [HM.out]; exact getS_done HR.out HK0.out HR4.out.1 HR4.out.2.1 HR4.out.2.2 k5 HD.out hfin hA6)
  · have HM := Lib.hid (show strM [] d = none from str_none (Option.map_eq_none_iff.mp ho))
    clear ho
    obtain ⟨cp, cw, hcw⟩ := conv_bytesR ⟨#[]⟩
    have hcv : (convert 9 22 (.string ⟨#[]⟩)).run Tryd.prog w4 = .ok (.slice (some ⟨w4.heap.size, 0, none⟩) 0 (cp w4)) (cw w4) := (hcw w4).1
    have hkw := (hcw w4).2.1
    have h1 := HG1.out.keeps hgo.keeps (HN.out _ (.inl rfl))
    have h2 := HG2.out.keeps hgo.keeps (HN.out _ (.inr (.inl rfl)))
    have h1b := h1.keeps hkw (fun h => h)
    have h2b := h2.keeps hkw (fun h => h)
    have kb := (Keeps.refl (fun i => w.heap.size ≤ i ∧ i < (((w.alloc (.cells #[.int .i64 18, .int .u64 u, .int .u64 v, .slice S n c] 28)).alloc (.cells #[.int .u64 0, .int .u64 0, .slice none 0 0, .bool false] 34)).alloc (.cells #[.int .u64 0, .int .u64 0, .slice none 0 0, .bool false] 34)).heap.size) w4).trans hkw (fun i hi h => h.elim)
    clear hcw h1 h2
    have a0 : (cw w4).cell? ⟨w.heap.size + 2, 0, none⟩ = some (.int .u64 0) := h2b.cell 0
    have az0 : (cw w4).frozen? ⟨w.heap.size + 2, 0, none⟩ = false := h2b.frozen 0
    have a1 : (cw w4).cell? ⟨w.heap.size + 2, 1, none⟩ = some (.int .u64 0) := h2b.cell 1
    have az1 : (cw w4).frozen? ⟨w.heap.size + 2, 1, none⟩ = false := h2b.frozen 1
    have a2 : (cw w4).cell? ⟨w.heap.size + 2, 2, none⟩ = some (.slice none 0 0) := h2b.cell 2
    have az2 : (cw w4).frozen? ⟨w.heap.size + 2, 2, none⟩ = false := h2b.frozen 2
    have a3 : (cw w4).cell? ⟨w.heap.size + 2, 3, none⟩ = some (.bool false) := h2b.cell 3
    have az3 : (cw w4).frozen? ⟨w.heap.size + 2, 3, none⟩ = false := h2b.frozen 3
    have al := h2b.lt
    have b0 : (cw w4).cell? ⟨w.heap.size + 1, 0, none⟩ = some (.int .u64 0) := h1b.cell 0
    have bz0 : (cw w4).frozen? ⟨w.heap.size + 1, 0, none⟩ = false := h1b.frozen 0
    have b1 : (cw w4).cell? ⟨w.heap.size + 1, 1, none⟩ = some (.int .u64 0) := h1b.cell 1
    have bz1 : (cw w4).frozen? ⟨w.heap.size + 1, 1, none⟩ = false := h1b.frozen 1
    have b2 : (cw w4).cell? ⟨w.heap.size + 1, 2, none⟩ = some (.slice none 0 0) := h1b.cell 2
    have bz2 : (cw w4).frozen? ⟨w.heap.size + 1, 2, none⟩ = false := h1b.frozen 2
    have b3 : (cw w4).cell? ⟨w.heap.size + 1, 3, none⟩ = some (.bool false) := h1b.cell 3
    have bz3 : (cw w4).frozen? ⟨w.heap.size + 1, 3, none⟩ = false := h1b.frozen 3
    have bl := h1b.lt
    have hne : w.heap.size + 1 ≠ w.heap.size + 2 := by omega
    go_wp2_with fail
    have r1 := (((((h1b.far (p := ⟨w.heap.size + 2, 2, none⟩) (by show w.heap.size + 1 ≠ w.heap.size + 2; omega) (.slice (some ⟨w4.heap.size, 0, none⟩) 0 (cp w4))).put 0 (.int .u64 0)).put 1 (.int .u64 0)).put 2 (.slice none 0 0)).put 3 (.bool true))
    have hld := run_loadVar_row (P := Tryd.prog) _ (w.heap.size + 1) 34 34 _ (0, 0) _ r1 Tryd.underlying34 rfl infoGot
    have k5 := (((((kb.setCell (p := ⟨w.heap.size + 2, 2, none⟩) (.inl ⟨by show w.heap.size ≤ w.heap.size + 2; omega, by rw [HSZ.out]; show w.heap.size + 2 < _; omega⟩) (.slice (some ⟨w4.heap.size, 0, none⟩) 0 (cp w4))).setCell (p := ⟨w.heap.size + 1, 0, none⟩) (.inl ⟨by show w.heap.size ≤ w.heap.size + 1; omega, by rw [HSZ.out]; show w.heap.size + 1 < _; omega⟩) (.int .u64 0)).setCell (p := ⟨w.heap.size + 1, 1, none⟩) (.inl ⟨by show w.heap.size ≤ w.heap.size + 1; omega, by rw [HSZ.out]; show w.heap.size + 1 < _; omega⟩) (.int .u64 0)).setCell (p := ⟨w.heap.size + 1, 2, none⟩) (.inl ⟨by show w.heap.size ≤ w.heap.size + 1; omega, by rw [HSZ.out]; show w.heap.size + 1 < _; omega⟩) (.slice none 0 0)).setCell (p := ⟨w.heap.size + 1, 3, none⟩) (.inl ⟨by show w.heap.size ≤ w.heap.size + 1; omega, by rw [HSZ.out]; show w.heap.size + 1 < _; omega⟩) (.bool true))
    have hfin := go_put HR.out HK0.out hgo k5 HD.out
    exact bodyPost_ret (results_cell1 rfl _ ⟨w.heap.size + 1, 0, none⟩ _ _ rfl hld) rfl (.inr ⟨l, HM.out, rfl, hfin⟩)
set_option maxRecDepth 100000 in
set_option maxHeartbeats 4000000 in
theorem mr19 (w : World) (base rb bb : Nat) (D R : Option Nat) (d : List UInt8) (hR : RdrOn w base rb bb D R d) (hD : ∀ i, D = some i → i < w.heap.size) (u v : Int) (S : Option Addr) (n c : Nat) (m : Nat) (hm : m ≤ 1000) (hu : u = (m : Int)) : Calls Tryd.prog 47 #[.agg #[.int .i64 19, .int .u64 u, .int .u64 v, .slice S n c], .pointer (some ⟨rb, 0, none⟩)] w (GetOk w base rb bb D R (rawM m d)) := by
  subst hu
  obtain ⟨K0, hp0, hg1, hg2⟩ := start3 w 28 34 #[.int .i64 19, .int .u64 (m : Int), .int .u64 v, .slice S n c] #[.int .u64 0, .int .u64 0, .slice none 0 0, .bool false] #[.int .u64 0, .int .u64 0, .slice none 0 0, .bool false]
  have HK0 := Lib.hid K0
  have HP0 := Lib.hid hp0
  have HG1 := Lib.hid hg1
  have HG2 := Lib.hid hg2
  have HR := Lib.hid hR
  have HN := Lib.hid (own_new hR)
  have HD := Lib.hid hD
  obtain ⟨i0, hi0, hz0, hz1, hz2⟩ := info_parts infoU8
  have HU := Lib.hid (readRawA _ base rb bb D R d (hR.new K0) m hm)
  have HSZ := Lib.hid (size3 w (.cells #[.int .i64 19, .int .u64 (m : Int), .int .u64 v, .slice S n c] 28) (.cells #[.int .u64 0, .int .u64 0, .slice none 0 0, .bool false] 34) (.cells #[.int .u64 0, .int .u64 0, .slice none 0 0, .bool false] 34))
  clear hR K0 hp0 hg1 hg2 hD
  have c3 : IntKind.i64.wrap (m : Int) = (m : Int) := by rw [IntKind.wrap_i64]; omega
  go_enter Tryd.func47, Tryd.ntmps47
  go_wp2_with fail
  refine HU.out.mono ?_
  rintro e w4 (⟨s, l, A4, c4, C4, k4, ho, rfl, hRa, hDa, hSa, hKa⟩ | ⟨x, l, ho, rfl, ⟨a, rfl⟩, hgo⟩)
  · have HM := Lib.hid (show rawM m d = some (0, 0, s, l) by rw [rawM, ho]; rfl)
    have hsn : s.length ≤ 1000 := cutR_len ho hm
    clear ho
    have h1b := HG1.out.keeps hKa (HN.out _ (.inl rfl))
    have h2b := HG2.out.keeps hKa (HN.out _ (.inr (.inl rfl)))
    have kb := (Keeps.refl (fun i => w.heap.size ≤ i ∧ i < (((w.alloc (.cells #[.int .i64 19, .int .u64 (m : Int), .int .u64 v, .slice S n c] 28)).alloc (.cells #[.int .u64 0, .int .u64 0, .slice none 0 0, .bool false] 34)).alloc (.cells #[.int .u64 0, .int .u64 0, .slice none 0 0, .bool false] 34)).heap.size) w4)
    have hXR := Rd.own hRa.own
    have HR4 := Lib.hid (And.intro (show RdrOn w4 base rb bb D (ob C4) l from ⟨A4, c4, C4, _, k4, _, hRa, hDa, rfl⟩) (And.intro hSa (kmore w.heap.size hKa)))
    have hXf : ∀ i, ob C4 = some i → ¬ i = w.heap.size + 2 := fun i hi h => by
      subst h
      rcases hSa with e | e
      · exact HN.out _ (.inr (.inl rfl)) (.inr (.inr (e ▸ hi)))
      · have := e _ hi
        rw [HSZ.out] at this
        omega
    clear hRa hDa hSa hKa
    have hne : w.heap.size + 1 ≠ w.heap.size + 2 := by omega
    have a0 : (w4).cell? ⟨w.heap.size + 2, 0, none⟩ = some (.int .u64 0) := h2b.cell 0
    have az0 : (w4).frozen? ⟨w.heap.size + 2, 0, none⟩ = false := h2b.frozen 0
    have a1 : (w4).cell? ⟨w.heap.size + 2, 1, none⟩ = some (.int .u64 0) := h2b.cell 1
    have az1 : (w4).frozen? ⟨w.heap.size + 2, 1, none⟩ = false := h2b.frozen 1
    have a2 : (w4).cell? ⟨w.heap.size + 2, 2, none⟩ = some (.slice none 0 0) := h2b.cell 2
    have az2 : (w4).frozen? ⟨w.heap.size + 2, 2, none⟩ = false := h2b.frozen 2
    have a3 : (w4).cell? ⟨w.heap.size + 2, 3, none⟩ = some (.bool false) := h2b.cell 3
    have az3 : (w4).frozen? ⟨w.heap.size + 2, 3, none⟩ = false := h2b.frozen 3
    have al := h2b.lt
    have b0 : (w4).cell? ⟨w.heap.size + 1, 0, none⟩ = some (.int .u64 0) := h1b.cell 0
    have bz0 : (w4).frozen? ⟨w.heap.size + 1, 0, none⟩ = false := h1b.frozen 0
    have b1 : (w4).cell? ⟨w.heap.size + 1, 1, none⟩ = some (.int .u64 0) := h1b.cell 1
    have bz1 : (w4).frozen? ⟨w.heap.size + 1, 1, none⟩ = false := h1b.frozen 1
    have b2 : (w4).cell? ⟨w.heap.size + 1, 2, none⟩ = some (.slice none 0 0) := h1b.cell 2
    have bz2 : (w4).frozen? ⟨w.heap.size + 1, 2, none⟩ = false := h1b.frozen 2
    have b3 : (w4).cell? ⟨w.heap.size + 1, 3, none⟩ = some (.bool false) := h1b.cell 3
    have bz3 : (w4).frozen? ⟨w.heap.size + 1, 3, none⟩ = false := h1b.frozen 3
    have bl := h1b.lt
    have k5a := kb.setCell (p := ⟨w.heap.size + 2, 2, none⟩) (.inl ⟨by show w.heap.size ≤ w.heap.size + 2; omega, by rw [HSZ.out]; show w.heap.size + 2 < _; omega⟩) (.slice C4 s.length k4)
    have hRX := hXR.keeps ((Keeps.refl (fun i => i = w.heap.size + 2) (w4)).setCell (p := ⟨w.heap.size + 2, 2, none⟩) (.inl rfl) (.slice C4 s.length k4)) hXf
    have hw2 := h2b.put 2 (.slice C4 s.length k4)
    have hw1 := h1b.far (p := ⟨w.heap.size + 2, 2, none⟩) (by show w.heap.size + 1 ≠ w.heap.size + 2; omega) (.slice C4 s.length k4)
    have hsb := kb.size
    have n1 : 0 + s.length ≤ maxLen := by simp only [maxLen]; omega
    have n2 : (0 + s.length) * 1 ≤ 140737488355328 := by omega
    have n3 : w.heap.size ≤ ((w4).setCell ⟨w.heap.size + 2, 2, none⟩ (.slice C4 s.length k4)).heap.size := by rw [World.size_setCell]; omega
    go_wp2_with (
      at_builtin
      refine wpList_append_rd _ rfl (.const (.slice none 0 0)) (.tmp 144) _ rfl w.heap.size 5 i0 _ 1 1 Tryd.underlying22 hi0 hz0 hz1 hz2 rfl Nat.one_pos none 0 0 [] rfl (World.ownsRow_nil _ _ _ _) C4 s.length k4 _ rfl hRX (byteCells_one _) n1 n2 n3 ?_
      intro A6 c6 w6 o6 hg6 hat6
      rw [Nat.zero_add, List.nil_append] at o6
      have g2 := hw2.grown hg6 (by simp [ob])
      have g1 := hw1.grown hg6 (by simp [ob])
      have p0 : (w6).cell? ⟨w.heap.size + 2, 0, none⟩ = some (.int .u64 0) := g2.cell 0
      have pz0 : (w6).frozen? ⟨w.heap.size + 2, 0, none⟩ = false := g2.frozen 0
      have p1 : (w6).cell? ⟨w.heap.size + 2, 1, none⟩ = some (.int .u64 0) := g2.cell 1
      have pz1 : (w6).frozen? ⟨w.heap.size + 2, 1, none⟩ = false := g2.frozen 1
      have p2 : (w6).cell? ⟨w.heap.size + 2, 2, none⟩ = some (.slice C4 s.length k4) := g2.cell 2
      have pz2 : (w6).frozen? ⟨w.heap.size + 2, 2, none⟩ = false := g2.frozen 2
      have p3 : (w6).cell? ⟨w.heap.size + 2, 3, none⟩ = some (.bool false) := g2.cell 3
      have pz3 : (w6).frozen? ⟨w.heap.size + 2, 3, none⟩ = false := g2.frozen 3
      have pl := g2.lt
      have q0 : (w6).cell? ⟨w.heap.size + 1, 0, none⟩ = some (.int .u64 0) := g1.cell 0
      have qz0 : (w6).frozen? ⟨w.heap.size + 1, 0, none⟩ = false := g1.frozen 0
      have q1 : (w6).cell? ⟨w.heap.size + 1, 1, none⟩ = some (.int .u64 0) := g1.cell 1
      have qz1 : (w6).frozen? ⟨w.heap.size + 1, 1, none⟩ = false := g1.frozen 1
      have q2 : (w6).cell? ⟨w.heap.size + 1, 2, none⟩ = some (.slice none 0 0) := g1.cell 2
      have qz2 : (w6).frozen? ⟨w.heap.size + 1, 2, none⟩ = false := g1.frozen 2
      have q3 : (w6).cell? ⟨w.heap.size + 1, 3, none⟩ = some (.bool false) := g1.cell 3
      have qz3 : (w6).frozen? ⟨w.heap.size + 1, 3, none⟩ = false := g1.frozen 3
      have ql := g1.lt)
    have hA6 : ∀ i, ob A6 = some i → w4.heap.size ≤ i := fun i hi => by
      rcases hat6 with e | e
      · rw [hi] at e; cases e
      · rw [hi] at e
        injection e with e
        rw [World.size_setCell] at e
        omega
    have h4l := h2b.lt
    have r1 := (((((g1.far (p := ⟨w.heap.size + 2, 2, none⟩) (by show w.heap.size + 1 ≠ w.heap.size + 2; omega) (.slice A6 s.length c6)).put 0 (.int .u64 0)).put 1 (.int .u64 0)).put 2 (.slice A6 s.length c6)).put 3 (.bool false))
    have hld := run_loadVar_row (P := Tryd.prog) _ (w.heap.size + 1) 34 34 _ (0, 0) _ r1 Tryd.underlying34 rfl infoGot
    have kx := ((((((Keeps.refl (fun i => i = w.heap.size + 1 ∨ i = w.heap.size + 2) w6).setCell (p := ⟨w.heap.size + 2, 2, none⟩) (.inl (.inr rfl)) (.slice A6 s.length c6)).setCell (p := ⟨w.heap.size + 1, 0, none⟩) (.inl (.inl rfl)) (.int .u64 0)).setCell (p := ⟨w.heap.size + 1, 1, none⟩) (.inl (.inl rfl)) (.int .u64 0)).setCell (p := ⟨w.heap.size + 1, 2, none⟩) (.inl (.inl rfl)) (.slice A6 s.length c6)).setCell (p := ⟨w.heap.size + 1, 3, none⟩) (.inl (.inl rfl)) (.bool false))
    have k5 := ((((((k5a.grown hg6 (fun i hi => by cases hi)).setCell (p := ⟨w.heap.size + 2, 2, none⟩) (.inl ⟨by show w.heap.size ≤ w.heap.size + 2; omega, by rw [HSZ.out]; show w.heap.size + 2 < _; omega⟩) (.slice A6 s.length c6)).setCell (p := ⟨w.heap.size + 1, 0, none⟩) (.inl ⟨by show w.heap.size ≤ w.heap.size + 1; omega, by rw [HSZ.out]; show w.heap.size + 1 < _; omega⟩) (.int .u64 0)).setCell (p := ⟨w.heap.size + 1, 1, none⟩) (.inl ⟨by show w.heap.size ≤ w.heap.size + 1; omega, by rw [HSZ.out]; show w.heap.size + 1 < _; omega⟩) (.int .u64 0)).setCell (p := ⟨w.heap.size + 1, 2, none⟩) (.inl ⟨by show w.heap.size ≤ w.heap.size + 1; omega, by rw [HSZ.out]; show w.heap.size + 1 < _; omega⟩) (.slice A6 s.length c6)).setCell (p := ⟨w.heap.size + 1, 3, none⟩) (.inl ⟨by show w.heap.size ≤ w.heap.size + 1; omega, by rw [HSZ.out]; show w.heap.size + 1 < _; omega⟩) (.bool false))
    have hfin := (Rd.own o6).keeps kx (fun i hi h => by have := hA6 i hi; omega)
    exact bodyPost_ret (results_cell1 rfl _ ⟨w.heap.size + 1, 0, none⟩ _ _ rfl hld) rfl (by rw [HM.out]; exact getS_done HR.out HK0.out HR4.out.1 HR4.out.2.1 HR4.out.2.2 k5 HD.out hfin hA6)
  · have HM := Lib.hid (show rawM m d = none by rw [rawM, ho]; rfl)
    clear ho
    have h1 := HG1.out.keeps hgo.keeps (HN.out _ (.inl rfl))
    have h2 := HG2.out.keeps hgo.keeps (HN.out _ (.inr (.inl rfl)))
    have hne : w.heap.size + 1 ≠ w.heap.size + 2 := by omega
    have a0 : w4.cell? ⟨w.heap.size + 2, 0, none⟩ = some (.int .u64 0) := h2.cell 0
    have a1 : w4.cell? ⟨w.heap.size + 2, 1, none⟩ = some (.int .u64 0) := h2.cell 1
    have a2 : w4.cell? ⟨w.heap.size + 2, 2, none⟩ = some (.slice none 0 0) := h2.cell 2
    have a3 : w4.cell? ⟨w.heap.size + 2, 3, none⟩ = some (.bool false) := h2.cell 3
    have b0 : w4.cell? ⟨w.heap.size + 1, 0, none⟩ = some (.int .u64 0) := h1.cell 0
    have b1 : w4.cell? ⟨w.heap.size + 1, 1, none⟩ = some (.int .u64 0) := h1.cell 1
    have b2 : w4.cell? ⟨w.heap.size + 1, 2, none⟩ = some (.slice none 0 0) := h1.cell 2
    have b3 : w4.cell? ⟨w.heap.size + 1, 3, none⟩ = some (.bool false) := h1.cell 3
    have z20 : w4.frozen? ⟨w.heap.size + 2, 0, none⟩ = false := h2.frozen 0
    have z21 : w4.frozen? ⟨w.heap.size + 2, 1, none⟩ = false := h2.frozen 1
    have z22 : w4.frozen? ⟨w.heap.size + 2, 2, none⟩ = false := h2.frozen 2
    have z10 : w4.frozen? ⟨w.heap.size + 1, 0, none⟩ = false := h1.frozen 0
    have z11 : w4.frozen? ⟨w.heap.size + 1, 1, none⟩ = false := h1.frozen 1
    have z12 : w4.frozen? ⟨w.heap.size + 1, 2, none⟩ = false := h1.frozen 2
    have z13 : w4.frozen? ⟨w.heap.size + 1, 3, none⟩ = false := h1.frozen 3
    have hl1 := h1.lt
    have hl2 := h2.lt
    go_wp2_with fail
    have r1 := (((((h1.far (p := ⟨w.heap.size + 2, 2, none⟩) (by show w.heap.size + 1 ≠ w.heap.size + 2; omega) (.slice none 0 0)).put 0 (.int .u64 0)).put 1 (.int .u64 0)).put 2 (.slice none 0 0)).put 3 (.bool true))
    have hld := run_loadVar_row (P := Tryd.prog) _ (w.heap.size + 1) 34 34 _ (0, 0) _ r1 Tryd.underlying34 rfl infoGot
    have k5 := ((((((Keeps.refl (fun i => w.heap.size ≤ i ∧ i < (((w.alloc (.cells #[.int .i64 19, .int .u64 (m : Int), .int .u64 v, .slice S n c] 28)).alloc (.cells #[.int .u64 0, .int .u64 0, .slice none 0 0, .bool false] 34)).alloc (.cells #[.int .u64 0, .int .u64 0, .slice none 0 0, .bool false] 34)).heap.size) w4).setCell (p := ⟨w.heap.size + 2, 2, none⟩) (.inl ⟨by show w.heap.size ≤ w.heap.size + 2; omega, by rw [HSZ.out]; show w.heap.size + 2 < _; omega⟩) (.slice none 0 0)).setCell (p := ⟨w.heap.size + 1, 0, none⟩) (.inl ⟨by show w.heap.size ≤ w.heap.size + 1; omega, by rw [HSZ.out]; show w.heap.size + 1 < _; omega⟩) (.int .u64 0)).setCell (p := ⟨w.heap.size + 1, 1, none⟩) (.inl ⟨by show w.heap.size ≤ w.heap.size + 1; omega, by rw [HSZ.out]; show w.heap.size + 1 < _; omega⟩) (.int .u64 0)).setCell (p := ⟨w.heap.size + 1, 2, none⟩) (.inl ⟨by show w.heap.size ≤ w.heap.size + 1; omega, by rw [HSZ.out]; show w.heap.size + 1 < _; omega⟩) (.slice none 0 0)).setCell (p := ⟨w.heap.size + 1, 3, none⟩) (.inl ⟨by show w.heap.size ≤ w.heap.size + 1; omega, by rw [HSZ.out]; show w.heap.size + 1 < _; omega⟩) (.bool true))
    have hfin := go_put HR.out HK0.out hgo k5 HD.out
    exact bodyPost_ret (results_cell1 rfl _ ⟨w.heap.size + 1, 0, none⟩ _ _ rfl hld) rfl (.inr ⟨l, HM.out, rfl, hfin⟩)
set_option maxRecDepth 100000 in
set_option maxHeartbeats 4000000 in
theorem mr21 (w : World) (base rb bb : Nat) (D R : Option Nat) (d : List UInt8) (hR : RdrOn w base rb bb D R d) (hD : ∀ i, D = some i → i < w.heap.size) (u v : Int) (S : Option Addr) (n c : Nat) (hX : ∀ x l, uvGo 10 0 0 d = some (x, l) → x ≤ 1000) : Calls Tryd.prog 47 #[.agg #[.int .i64 21, .int .u64 u, .int .u64 v, .slice S n c], .pointer (some ⟨rb, 0, none⟩)] w (GetOk w base rb bb D R (strM [] d)) := by
  obtain ⟨K0, hp0, hg1, hg2⟩ := start3 w 28 34 #[.int .i64 21, .int .u64 u, .int .u64 v, .slice S n c] #[.int .u64 0, .int .u64 0, .slice none 0 0, .bool false] #[.int .u64 0, .int .u64 0, .slice none 0 0, .bool false]
  have HK0 := Lib.hid K0
  have HP0 := Lib.hid hp0
  have HG1 := Lib.hid hg1
  have HG2 := Lib.hid hg2
  have HR := Lib.hid hR
  have HN := Lib.hid (own_new hR)
  have HD := Lib.hid hD
  obtain ⟨i0, hi0, hz0, hz1, hz2⟩ := info_parts infoU8
  have HU := Lib.hid (strRawA _ base rb bb D R d (hR.new K0) hX)
  have HSZ := Lib.hid (size3 w (.cells #[.int .i64 21, .int .u64 u, .int .u64 v, .slice S n c] 28) (.cells #[.int .u64 0, .int .u64 0, .slice none 0 0, .bool false] 34) (.cells #[.int .u64 0, .int .u64 0, .slice none 0 0, .bool false] 34))
  clear hR K0 hp0 hg1 hg2 hD
  have HX0 := Lib.hid hX
  clear hX
  go_enter Tryd.func47, Tryd.ntmps47
  go_wp2_with fail
  refine HU.out.mono ?_
  rintro e w4 (⟨s, l, A4, c4, C4, k4, ho, rfl, hRa, hDa, hSa, hKa⟩ | ⟨x, l, ho, rfl, ⟨a, rfl⟩, hgo⟩)
  · have HM := Lib.hid (show strM [] d = some (0, 0, s, l) by rw [strM, ho]; rfl)
    have hsn : s.length ≤ 1000 := cutS_len ho HX0.out
    clear ho
    have h1b := HG1.out.keeps hKa (HN.out _ (.inl rfl))
    have h2b := HG2.out.keeps hKa (HN.out _ (.inr (.inl rfl)))
    have kb := (Keeps.refl (fun i => w.heap.size ≤ i ∧ i < (((w.alloc (.cells #[.int .i64 21, .int .u64 u, .int .u64 v, .slice S n c] 28)).alloc (.cells #[.int .u64 0, .int .u64 0, .slice none 0 0, .bool false] 34)).alloc (.cells #[.int .u64 0, .int .u64 0, .slice none 0 0, .bool false] 34)).heap.size) w4)
    have hXR := Rd.own hRa.own
    have HR4 := Lib.hid (And.intro (show RdrOn w4 base rb bb D (ob C4) l from ⟨A4, c4, C4, _, k4, _, hRa, hDa, rfl⟩) (And.intro hSa (kmore w.heap.size hKa)))
    have hXf : ∀ i, ob C4 = some i → ¬ i = w.heap.size + 2 := fun i hi h => by
      subst h
      rcases hSa with e | e
      · exact HN.out _ (.inr (.inl rfl)) (.inr (.inr (e ▸ hi)))
      · have := e _ hi
        rw [HSZ.out] at this
        omega
    clear hRa hDa hSa hKa
    have hne : w.heap.size + 1 ≠ w.heap.size + 2 := by omega
    have a0 : (w4).cell? ⟨w.heap.size + 2, 0, none⟩ = some (.int .u64 0) := h2b.cell 0
    have az0 : (w4).frozen? ⟨w.heap.size + 2, 0, none⟩ = false := h2b.frozen 0
    have a1 : (w4).cell? ⟨w.heap.size + 2, 1, none⟩ = some (.int .u64 0) := h2b.cell 1
    have az1 : (w4).frozen? ⟨w.heap.size + 2, 1, none⟩ = false := h2b.frozen 1
    have a2 : (w4).cell? ⟨w.heap.size + 2, 2, none⟩ = some (.slice none 0 0) := h2b.cell 2
    have az2 : (w4).frozen? ⟨w.heap.size + 2, 2, none⟩ = false := h2b.frozen 2
    have a3 : (w4).cell? ⟨w.heap.size + 2, 3, none⟩ = some (.bool false) := h2b.cell 3
    have az3 : (w4).frozen? ⟨w.heap.size + 2, 3, none⟩ = false := h2b.frozen 3
    have al := h2b.lt
    have b0 : (w4).cell? ⟨w.heap.size + 1, 0, none⟩ = some (.int .u64 0) := h1b.cell 0
    have bz0 : (w4).frozen? ⟨w.heap.size + 1, 0, none⟩ = false := h1b.frozen 0
    have b1 : (w4).cell? ⟨w.heap.size + 1, 1, none⟩ = some (.int .u64 0) := h1b.cell 1
    have bz1 : (w4).frozen? ⟨w.heap.size + 1, 1, none⟩ = false := h1b.frozen 1
    have b2 : (w4).cell? ⟨w.heap.size + 1, 2, none⟩ = some (.slice none 0 0) := h1b.cell 2
    have bz2 : (w4).frozen? ⟨w.heap.size + 1, 2, none⟩ = false := h1b.frozen 2
    have b3 : (w4).cell? ⟨w.heap.size + 1, 3, none⟩ = some (.bool false) := h1b.cell 3
    have bz3 : (w4).frozen? ⟨w.heap.size + 1, 3, none⟩ = false := h1b.frozen 3
    have bl := h1b.lt
    have k5a := kb.setCell (p := ⟨w.heap.size + 2, 2, none⟩) (.inl ⟨by show w.heap.size ≤ w.heap.size + 2; omega, by rw [HSZ.out]; show w.heap.size + 2 < _; omega⟩) (.slice C4 s.length k4)
    have hRX := hXR.keeps ((Keeps.refl (fun i => i = w.heap.size + 2) (w4)).setCell (p := ⟨w.heap.size + 2, 2, none⟩) (.inl rfl) (.slice C4 s.length k4)) hXf
    have hw2 := h2b.put 2 (.slice C4 s.length k4)
    have hw1 := h1b.far (p := ⟨w.heap.size + 2, 2, none⟩) (by show w.heap.size + 1 ≠ w.heap.size + 2; omega) (.slice C4 s.length k4)
    have hsb := kb.size
    have n1 : 0 + s.length ≤ maxLen := by simp only [maxLen]; omega
    have n2 : (0 + s.length) * 1 ≤ 140737488355328 := by omega
    have n3 : w.heap.size ≤ ((w4).setCell ⟨w.heap.size + 2, 2, none⟩ (.slice C4 s.length k4)).heap.size := by rw [World.size_setCell]; omega
    go_wp2_with (
      at_builtin
      refine wpList_append_rd _ rfl (.const (.slice none 0 0)) (.tmp 144) _ rfl w.heap.size 5 i0 _ 1 1 Tryd.underlying22 hi0 hz0 hz1 hz2 rfl Nat.one_pos none 0 0 [] rfl (World.ownsRow_nil _ _ _ _) C4 s.length k4 _ rfl hRX (byteCells_one _) n1 n2 n3 ?_
      intro A6 c6 w6 o6 hg6 hat6
      rw [Nat.zero_add, List.nil_append] at o6
      have g2 := hw2.grown hg6 (by simp [ob])
      have g1 := hw1.grown hg6 (by simp [ob])
      have p0 : (w6).cell? ⟨w.heap.size + 2, 0, none⟩ = some (.int .u64 0) := g2.cell 0
      have pz0 : (w6).frozen? ⟨w.heap.size + 2, 0, none⟩ = false := g2.frozen 0
      have p1 : (w6).cell? ⟨w.heap.size + 2, 1, none⟩ = some (.int .u64 0) := g2.cell 1
      have pz1 : (w6).frozen? ⟨w.heap.size + 2, 1, none⟩ = false := g2.frozen 1
      have p2 : (w6).cell? ⟨w.heap.size + 2, 2, none⟩ = some (.slice C4 s.length k4) := g2.cell 2
      have pz2 : (w6).frozen? ⟨w.heap.size + 2, 2, none⟩ = false := g2.frozen 2
      have p3 : (w6).cell? ⟨w.heap.size + 2, 3, none⟩ = some (.bool false) := g2.cell 3
      have pz3 : (w6).frozen? ⟨w.heap.size + 2, 3, none⟩ = false := g2.frozen 3
      have pl := g2.lt
      have q0 : (w6).cell? ⟨w.heap.size + 1, 0, none⟩ = some (.int .u64 0) := g1.cell 0
      have qz0 : (w6).frozen? ⟨w.heap.size + 1, 0, none⟩ = false := g1.frozen 0
      have q1 : (w6).cell? ⟨w.heap.size + 1, 1, none⟩ = some (.int .u64 0) := g1.cell 1
      have qz1 : (w6).frozen? ⟨w.heap.size + 1, 1, none⟩ = false := g1.frozen 1
      have q2 : (w6).cell? ⟨w.heap.size + 1, 2, none⟩ = some (.slice none 0 0) := g1.cell 2
      have qz2 : (w6).frozen? ⟨w.heap.size + 1, 2, none⟩ = false := g1.frozen 2
      have q3 : (w6).cell? ⟨w.heap.size + 1, 3, none⟩ = some (.bool false) := g1.cell 3
      have qz3 : (w6).frozen? ⟨w.heap.size + 1, 3, none⟩ = false := g1.frozen 3
      have ql := g1.lt)
    have hA6 : ∀ i, ob A6 = some i → w4.heap.size ≤ i := fun i hi => by
      rcases hat6 with e | e
      · rw [hi] at e; cases e
      · rw [hi] at e
        injection e with e
        rw [World.size_setCell] at e
        omega
    have h4l := h2b.lt
    have r1 := (((((g1.far (p := ⟨w.heap.size + 2, 2, none⟩) (by show w.heap.size + 1 ≠ w.heap.size + 2; omega) (.slice A6 s.length c6)).put 0 (.int .u64 0)).put 1 (.int .u64 0)).put 2 (.slice A6 s.length c6)).put 3 (.bool false))
    have hld := run_loadVar_row (P := Tryd.prog) _ (w.heap.size + 1) 34 34 _ (0, 0) _ r1 Tryd.underlying34 rfl infoGot
    have kx := ((((((Keeps.refl (fun i => i = w.heap.size + 1 ∨ i = w.heap.size + 2) w6).setCell (p := ⟨w.heap.size + 2, 2, none⟩) (.inl (.inr rfl)) (.slice A6 s.length c6)).setCell (p := ⟨w.heap.size + 1, 0, none⟩) (.inl (.inl rfl)) (.int .u64 0)).setCell (p := ⟨w.heap.size + 1, 1, none⟩) (.inl (.inl rfl)) (.int .u64 0)).setCell (p := ⟨w.heap.size + 1, 2, none⟩) (.inl (.inl rfl)) (.slice A6 s.length c6)).setCell (p := ⟨w.heap.size + 1, 3, none⟩) (.inl (.inl rfl)) (.bool false))
    have k5 := ((((((k5a.grown hg6 (fun i hi => by cases hi)).setCell (p := ⟨w.heap.size + 2, 2, none⟩) (.inl ⟨by show w.heap.size ≤ w.heap.size + 2; omega, by rw [HSZ.out]; show w.heap.size + 2 < _; omega⟩) (.slice A6 s.length c6)).setCell (p := ⟨w.heap.size + 1, 0, none⟩) (.inl ⟨by show w.heap.size ≤ w.heap.size + 1; omega, by rw [HSZ.out]; show w.heap.size + 1 < _; omega⟩) (.int .u64 0)).setCell (p := ⟨w.heap.size + 1, 1, none⟩) (.inl ⟨by show w.heap.size ≤ w.heap.size + 1; omega, by rw [HSZ.out]; show w.heap.size + 1 < _; omega⟩) (.int .u64 0)).setCell (p := ⟨w.heap.size + 1, 2, none⟩) (.inl ⟨by show w.heap.size ≤ w.heap.size + 1; omega, by rw [HSZ.out]; show w.heap.size + 1 < _; omega⟩) (.slice A6 s.length c6)).setCell (p := ⟨w.heap.size + 1, 3, none⟩) (.inl ⟨by show w.heap.size ≤ w.heap.size + 1; omega, by rw [HSZ.out]; show w.heap.size + 1 < _; omega⟩) (.bool false))
    have hfin := (Rd.own o6).keeps kx (fun i hi h => by have := hA6 i hi; omega)
    exact bodyPost_ret (results_cell1 rfl _ ⟨w.heap.size + 1, 0, none⟩ _ _ rfl hld) rfl (by rw [HM.out]; exact getS_done HR.out HK0.out HR4.out.1 HR4.out.2.1 HR4.out.2.2 k5 HD.out hfin hA6)
  · have HM := Lib.hid (str_none (a := []) ho)
    clear ho
    have h1 := HG1.out.keeps hgo.keeps (HN.out _ (.inl rfl))
    have h2 := HG2.out.keeps hgo.keeps (HN.out _ (.inr (.inl rfl)))
    have hne : w.heap.size + 1 ≠ w.heap.size + 2 := by omega
    have a0 : w4.cell? ⟨w.heap.size + 2, 0, none⟩ = some (.int .u64 0) := h2.cell 0
    have a1 : w4.cell? ⟨w.heap.size + 2, 1, none⟩ = some (.int .u64 0) := h2.cell 1
    have a2 : w4.cell? ⟨w.heap.size + 2, 2, none⟩ = some (.slice none 0 0) := h2.cell 2
    have a3 : w4.cell? ⟨w.heap.size + 2, 3, none⟩ = some (.bool false) := h2.cell 3
    have b0 : w4.cell? ⟨w.heap.size + 1, 0, none⟩ = some (.int .u64 0) := h1.cell 0
    have b1 : w4.cell? ⟨w.heap.size + 1, 1, none⟩ = some (.int .u64 0) := h1.cell 1
    have b2 : w4.cell? ⟨w.heap.size + 1, 2, none⟩ = some (.slice none 0 0) := h1.cell 2
    have b3 : w4.cell? ⟨w.heap.size + 1, 3, none⟩ = some (.bool false) := h1.cell 3
    have z20 : w4.frozen? ⟨w.heap.size + 2, 0, none⟩ = false := h2.frozen 0
    have z21 : w4.frozen? ⟨w.heap.size + 2, 1, none⟩ = false := h2.frozen 1
    have z22 : w4.frozen? ⟨w.heap.size + 2, 2, none⟩ = false := h2.frozen 2
    have z10 : w4.frozen? ⟨w.heap.size + 1, 0, none⟩ = false := h1.frozen 0
    have z11 : w4.frozen? ⟨w.heap.size + 1, 1, none⟩ = false := h1.frozen 1
    have z12 : w4.frozen? ⟨w.heap.size + 1, 2, none⟩ = false := h1.frozen 2
    have z13 : w4.frozen? ⟨w.heap.size + 1, 3, none⟩ = false := h1.frozen 3
    have hl1 := h1.lt
    have hl2 := h2.lt
    go_wp2_with fail
    have r1 := (((((h1.far (p := ⟨w.heap.size + 2, 2, none⟩) (by show w.heap.size + 1 ≠ w.heap.size + 2; omega) (.slice none 0 0)).put 0 (.int .u64 0)).put 1 (.int .u64 0)).put 2 (.slice none 0 0)).put 3 (.bool true))
    have hld := run_loadVar_row (P := Tryd.prog) _ (w.heap.size + 1) 34 34 _ (0, 0) _ r1 Tryd.underlying34 rfl infoGot
    have k5 := ((((((Keeps.refl (fun i => w.heap.size ≤ i ∧ i < (((w.alloc (.cells #[.int .i64 21, .int .u64 u, .int .u64 v, .slice S n c] 28)).alloc (.cells #[.int .u64 0, .int .u64 0, .slice none 0 0, .bool false] 34)).alloc (.cells #[.int .u64 0, .int .u64 0, .slice none 0 0, .bool false] 34)).heap.size) w4).setCell (p := ⟨w.heap.size + 2, 2, none⟩) (.inl ⟨by show w.heap.size ≤ w.heap.size + 2; omega, by rw [HSZ.out]; show w.heap.size + 2 < _; omega⟩) (.slice none 0 0)).setCell (p := ⟨w.heap.size + 1, 0, none⟩) (.inl ⟨by show w.heap.size ≤ w.heap.size + 1; omega, by rw [HSZ.out]; show w.heap.size + 1 < _; omega⟩) (.int .u64 0)).setCell (p := ⟨w.heap.size + 1, 1, none⟩) (.inl ⟨by show w.heap.size ≤ w.heap.size + 1; omega, by rw [HSZ.out]; show w.heap.size + 1 < _; omega⟩) (.int .u64 0)).setCell (p := ⟨w.heap.size + 1, 2, none⟩) (.inl ⟨by show w.heap.size ≤ w.heap.size + 1; omega, by rw [HSZ.out]; show w.heap.size + 1 < _; omega⟩) (.slice none 0 0)).setCell (p := ⟨w.heap.size + 1, 3, none⟩) (.inl ⟨by show w.heap.size ≤ w.heap.size + 1; omega, by rw [HSZ.out]; show w.heap.size + 1 < _; omega⟩) (.bool true))
    have hfin := go_put HR.out HK0.out hgo k5 HD.out
    exact bodyPost_ret (results_cell1 rfl _ ⟨w.heap.size + 1, 0, none⟩ _ _ rfl hld) rfl (.inr ⟨l, HM.out, rfl, hfin⟩)
end Go.Proofs.YthfoleapdmpdfaaDoor
