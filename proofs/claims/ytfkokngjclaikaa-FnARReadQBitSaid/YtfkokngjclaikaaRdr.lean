/- Contracts of the reader: so many bytes are read into its own buffer, or there is an error. Conditions: the reader's block, its buffer's block, and the bytes that it reads lie apart. -/
import Derived.Test.YtfkokngjclaikaaBuf
import Derived.Laws.CopyOwn
namespace Go.Proofs.Ytfkokngjclaikaa
open Go.RowKit

theorem byteInfo1 : (Try.prog.info? 5).map (·.size) = some 1 := by kernel_rfl

/-- copy into a row of the call's own, from a slice that has as many elements at least. -/
theorem run_copy_rd {P : Program} (w : World) (dT sT ty e : TypeId) (hu : P.underlying dT = some (.slice e)) (hs : (P.info? e).map (·.size) = some 1) (base : Nat)
    (C : Option Addr) (n k : Nat) (olds : List Value) (hown : w.ownsRow base e 1 (.slice C n k) n olds) (A : Option Addr) (m c : Nat) (xs : List Value) (hr : Rd w 1 A m xs) (h1 : ∀ u ∈ xs, u.oneCell' = true) (hnm : n ≤ m) :
    ∃ w', (Builtin.copy_ #[dT, sT] ty #[.slice C n k, .slice A m c]).run P w = .ok (goInt n) w' ∧ w'.ownsRow base e 1 (.slice C n k) n (xs.take n) ∧ w.grownBy w' (ob C) := by
  have hxl : xs.length = m := by have := hr.1; omega
  rcases Nat.eq_zero_or_pos n with h0 | h0
  · subst h0
    refine ⟨w, ?_, ⟨by simp, ?_⟩, World.grownBy.refl w _⟩
    · have := run_copy_none (P := P) w dT sT ty e C A 0 k m c hu hs (by simp)
      simpa using this
    · rcases hown.2 with h | ⟨g, cap, cur, h, hb, hg, hnc, hcm, hcs, _⟩
      · exact .inl h
      · exact .inr ⟨g, cap, cur, h, hb, hg, hnc, hcm, hcs, by simp⟩
  · obtain ⟨g, cap, hv, hbg, hlt⟩ := hown.form h0
    injection hv with hv1 _ hv3
    subst hv1 hv3
    obtain ⟨ad, rfl, _, hc⟩ := hr.2 (by omega)
    rcases hown.2 with ⟨h, _⟩ | ⟨g', cap', cur, h, hb, hg, hnc, hcm, hcs, _⟩
    · cases h
    · injection h with h1' _ h3
      injection h1' with h1'
      injection h1' with h1'
      subst h1' h3
      have hl : (xs.take n).length = n := by rw [List.length_take]; omega
      have hrun := run_copy_row (P := P) w dT sT ty e g 0 n k ad m c cur e (xs.take n) hu hs hg (by rw [hl]; show n = min m n; omega) (fun j v hj => by
        rw [List.getElem?_take] at hj
        split at hj
        · exact hc j v hj
        · cases hj) (by rw [hl]; omega) (fun v hv => h1 v (List.mem_of_mem_take hv))
      rw [hl] at hrun
      refine ⟨_, hrun, ⟨by rw [hl]; omega, .inr ⟨g, k, _, rfl, hb, setRow_heap w g cur _ e _ hg, hnc, hcm, ?_, ?_⟩⟩, ⟨rfl, rfl, rfl, by simp, fun i _ hi => setRow_other w g i _ (fun e => hi (by rw [e]; rfl))⟩⟩
      · simp [hl]; omega
      · simp [hl]

theorem wpList_copy_rd {P : Program} {w : World} {ops : Array Oper} {rest : List Oper} {o : Oper} {a : Act} {Q : Exit → Act → World → Prop} (hgd : o.guard = none) (d s : Operand) (dT sT : TypeId)
    (ho : o.op = .call { callee := .builtin .copy, args := #[d, s], argTypes := #[dT, sT] }) (e : TypeId) (hu : P.underlying dT = some (.slice e)) (hs : (P.info? e).map (·.size) = some 1) (base : Nat)
    (C : Option Addr) (n k : Nat) (olds : List Value) (hd : a.eval d = .slice C n k) (hown : w.ownsRow base e 1 (.slice C n k) n olds) (A : Option Addr) (m c : Nat) (xs : List Value) (hx : a.eval s = .slice A m c) (hr : Rd w 1 A m xs) (h1 : ∀ u ∈ xs, u.oneCell' = true) (hnm : n ≤ m)
    (h : ∀ w', w'.ownsRow base e 1 (.slice C n k) n (xs.take n) → w.grownBy w' (ob C) → wpList P ops Q rest (a.put o.dst (goInt n)) w') : wpList P ops Q (o :: rest) a w := by
  refine wpList_plain hgd fun K hK => ?_
  obtain ⟨w', hrun, h2, h3⟩ := run_copy_rd (P := P) w dT sT o.type e hu hs base C n k olds hown A m c xs hr h1 hnm
  unfold Oper.wp
  simp [execOp, ho, resolve, invoke, builtin, hd, hx, hrun, Result.andThen]
  exact hK _ _ (h w' h2 h3)

theorem own_reslice {w : World} {base : Nat} {e : TypeId} {C : Option Addr} {n k m : Nat} {q : List Value} (h : w.ownsRow base e 1 (.slice C n k) n q) (hm : m ≤ k) : ∃ q', w.ownsRow base e 1 (.slice C m k) m q' := by
  rcases h.2 with ⟨h, _⟩ | ⟨g, cap, cur, h, hb, hg, hnc, hcm, hcs, _⟩
  · injection h with h1 h2 h3
    subst h1 h3
    obtain rfl : m = 0 := by omega
    exact ⟨[], by simp, .inl ⟨rfl, rfl⟩⟩
  · injection h with h1 h2 h3
    subst h1 h3
    exact ⟨cur.toList.take m, by simp; omega, .inr ⟨g, k, cur, rfl, hb, hg, hm, hcm, hcs, by simp⟩⟩

/-- A reader: its block, its buffer's block, the bytes that are not read yet. -/
structure RdrAt (w : World) (base rb bb : Nat) (A : Option Addr) (c : Nat) (d : List UInt8) (C : Option Addr) (n k : Nat) (q : List Value) : Prop where
  rdr : Whole w rb 71 #[.slice A d.length c, .pointer (some ⟨bb, 0, none⟩)]
  blk : Whole w bb 69 #[.slice C n k]
  own : w.ownsRow base 5 1 (.slice C n k) n q
  data : Rd w 1 A d.length (Lib.byteCells d)
  cap : d.length ≤ c
  lo1 : base ≤ rb
  lo2 : base ≤ bb
  sep : ∀ i, ob A = some i → i ≠ rb ∧ i ≠ bb ∧ ob C ≠ some i ∧ i < w.heap.size

theorem RdrAt.farC {w : World} {base rb bb : Nat} {A : Option Addr} {c : Nat} {d : List UInt8} {C : Option Addr} {n k : Nat} {q : List Value} (h : RdrAt w base rb bb A c d C n k q) : ob C ≠ some rb ∧ ob C ≠ some bb ∧ rb ≠ bb := by
  have h1 := own_far h.own h.rdr (by decide)
  have h2 := own_far h.own h.blk (by decide)
  rw [ownBlock_slice] at h1 h2
  exact ⟨h1, h2, h.rdr.differ h.blk (by decide)⟩
theorem RdrAt.keeps {w w' : World} {base rb bb : Nat} {A : Option Addr} {c : Nat} {d : List UInt8} {C : Option Addr} {n k : Nat} {q : List Value} {S : Nat → Prop} (h : RdrAt w base rb bb A c d C n k q) (hk : Keeps S w w')
    (h1 : ¬ S rb) (h2 : ¬ S bb) (h3 : ∀ i, ob C = some i → ¬ S i) (h4 : ∀ i, ob A = some i → ¬ S i) : RdrAt w' base rb bb A c d C n k q :=
  ⟨h.rdr.keeps hk h1, h.blk.keeps hk h2, own_keeps h.own hk (by rw [ownBlock_slice]; exact h3), h.data.keeps hk h4, h.cap, h.lo1, h.lo2, fun i hi => by
    obtain ⟨a, b, c, e⟩ := h.sep i hi
    exact ⟨a, b, c, Nat.lt_of_lt_of_le e hk.size⟩⟩
/-- What a step of a reader may change. -/
def RdrS (rb bb : Nat) (C : Option Addr) : Nat → Prop := fun i => i = rb ∨ i = bb ∨ ob C = some i

theorem Rd.cut {w : World} {size n k : Nat} {A : Option Addr} {xs : List Value} (h : Rd w size A n xs) (hk : k ≤ n) : Rd w size (A.map (·.add (k * size))) (n - k) (xs.drop (k * size)) := by
  refine ⟨by rw [List.length_drop, h.1, Nat.sub_mul], fun hn => ?_⟩
  obtain ⟨ad, rfl, hb, hc⟩ := h.2 (by omega)
  refine ⟨ad.add (k * size), rfl, by rw [blk_add]; exact hb, fun j u hu => ?_⟩
  rw [add_add']
  exact hc _ u (by rw [← hu, List.getElem?_drop])
theorem ob_map (A : Option Addr) (k : Nat) : ob (A.map (·.add k)) = ob A := by cases A <;> simp [ob, blk_add]

theorem readFull_end {w w1 : World} {base rb bb : Nat} {A : Option Addr} {c : Nat} {d : List UInt8} {C : Option Addr} {n k : Nat} {q : List Value} (hR : RdrAt w base rb bb A c d C n k q) (_hn : n ≤ d.length)
    (hown1 : w1.ownsRow base 5 1 (.slice C n k) n ((Lib.byteCells d).take n)) (hg1 : w.grownBy w1 (ob C)) {A' : Option Addr} {m c' : Nat} (hA : ob A' = ob A) (hm : d.length - n = m) (hdat : Rd w1 1 A' m ((Lib.byteCells d).drop n)) (hc : m ≤ c') :
    RdrAt (w1.setCell ⟨rb, 0, none⟩ (.slice A' m c')) base rb bb A' c' (d.drop n) C n k (Lib.byteCells (d.take n)) ∧ Keeps (RdrS rb bb C) w (w1.setCell ⟨rb, 0, none⟩ (.slice A' m c')) := by
  subst hm
  obtain ⟨f1, f2, f3⟩ := hR.farC
  have hrdr1 := hR.rdr.grown hg1 (Ne.symm f1)
  have hblk1 := hR.blk.grown hg1 (Ne.symm f2)
  have hk1 : Keeps (fun i => i = rb) w1 (w1.setCell ⟨rb, 0, none⟩ (.slice A' (d.length - n) c')) := (Keeps.refl (fun i => i = rb) w1).setCell (.inl rfl) _
  have hd1 : Lib.byteCells (d.drop n) = (Lib.byteCells d).drop n := by simp [Lib.byteCells, List.map_drop]
  have hd2 : Lib.byteCells (d.take n) = (Lib.byteCells d).take n := by simp [Lib.byteCells, List.map_take]
  have hl : (d.drop n).length = d.length - n := by simp
  refine ⟨⟨?_, hblk1.keeps hk1 (by omega), ?_, ?_, by rw [hl]; exact hc, hR.lo1, hR.lo2, ?_⟩, ?_⟩
  · rw [hl]; exact hrdr1.put 0 _
  · rw [hd2]
    refine own_keeps hown1 hk1 ?_
    rw [ownBlock_slice]
    rintro i hi rfl
    exact f1 hi
  · rw [hd1, hl]
    refine hdat.keeps hk1 ?_
    rintro i hi rfl
    rw [hA] at hi
    exact (hR.sep i hi).1 rfl
  · intro i hi
    rw [hA] at hi
    obtain ⟨a, b, e, f⟩ := hR.sep i hi
    exact ⟨a, b, e, Nat.lt_of_lt_of_le f (Nat.le_trans hg1.size hk1.size)⟩
  · exact ((Keeps.refl (RdrS rb bb C) w).grown hg1 fun i hi => .inl (.inr (.inr hi))).trans hk1 fun i _ h => .inl h

set_option maxHeartbeats 400000 in
theorem ensure (w : World) (base bb : Nat) (C : Option Addr) (n k m : Nat) (q : List Value) (hW : Whole w bb 69 #[.slice C n k]) (hown : w.ownsRow base 5 1 (.slice C n k) n q) (hlo : base ≤ bb) (hm : m ≤ 140737488355328) :
    Calls Try.prog 35 #[.pointer (some ⟨bb, 0, none⟩), .int .i64 m] w fun e w' => ∃ C' k' q', e = .returned (.tuple #[]) ∧ Whole w' bb 69 #[.slice C' m k'] ∧
      w'.ownsRow base 5 1 (.slice C' m k') m q' ∧ Keeps (fun i => i = bb) w w' ∧ (ob C' = ob C ∨ ob C' = some w.heap.size) := by
  obtain ⟨i0, hi0, hz0, hz1, hz2⟩ := info_parts infoU8
  have hlt := hW.lt
  have hc : w.cell? ⟨bb, 0, none⟩ = some (.slice C n k) := hW.cell 0
  have hf : w.frozen? ⟨bb, 0, none⟩ = false := hW.frozen 0
  by_cases hk : k < m
  · have b2 : i0.bytes * m ≤ 281474976710656 := by rw [hz2]; omega
    have b3 : m ≤ maxLen := by simp only [maxLen]; omega
    have b4 : base ≤ w.heap.size := by omega
    have hki : (k : Int) < (m : Int) := by omega
    go_enter Try.func35, Try.ntmps35
    go_wp2_with (first
      | (refine wpList_make_full _ rfl (.tmp 12) (.tmp 12) _ rfl base 5 i0 _ 1 Try.underlying23 hi0 hz0 hz1 .i64 .i64 _ _ m rfl rfl rfl rfl b2 b3 b4 ?_
         intro w1 hown1 hg1
         have hblk := hW.grown hg1 (by simp)
         have hc1 : w1.cell? ⟨bb, 0, none⟩ = some (.slice C n k) := hblk.cell 0
         have hf1 : w1.frozen? ⟨bb, 0, none⟩ = false := hblk.frozen 0))
    go_end0
    have hk1 : Keeps (fun i => i = bb) w1 (w1.setCell ⟨bb, 0, none⟩ (.slice (some ⟨w.heap.size, 0, none⟩) m m))   := (Keeps.refl (fun i => i = bb) w1).setCell (.inl rfl) _
    refine ⟨_, m, _, rfl, hblk.put 0 _, own_keeps hown1 hk1 ?_, ((Keeps.refl _ _).grown hg1 (by simp)).trans hk1 (fun _ _ h => h), .inr rfl⟩
    rw [ownBlock_slice]
    rintro i hi rfl
    simp [ob] at hi
    omega
  · have hki : (m : Int) ≤ (k : Int) := by omega
    go_enter Try.func35, Try.ntmps35
    go_wp2
    go_end0
    obtain ⟨q', hq'⟩ := own_reslice hown (show m ≤ k by omega)
    have hk1 : Keeps (fun i => i = bb) w (w.setCell ⟨bb, 0, none⟩ (.slice C m k)) := (Keeps.refl (fun i => i = bb) w).setCell (.inl rfl) _
    refine ⟨C, k, q', rfl, hW.put 0 _, own_keeps hq' hk1 ?_, hk1, .inl rfl⟩
    have hfar := own_far hown hW (by decide)
    rw [ownBlock_slice] at hfar ⊢
    rintro i hi rfl
    exact hfar hi

set_option maxRecDepth 100000 in
set_option maxHeartbeats 400000 in
theorem readFullInto (w : World) (base rb bb : Nat) (A : Option Addr) (c : Nat) (d : List UInt8) (C : Option Addr) (n k : Nat) (q : List Value) (hR : RdrAt w base rb bb A c d C n k q) (hn : n ≤ d.length) :
    Calls Try.prog 36 #[.pointer (some ⟨rb, 0, none⟩), .slice C n k] w fun e w' => ∃ A' c', e = .returned .nilIface ∧
      RdrAt w' base rb bb A' c' (d.drop n) C n k (Lib.byteCells (d.take n)) ∧ Keeps (RdrS rb bb C) w w' ∧ ob A' = ob A := by
  obtain ⟨f1, f2, f3⟩ := hR.farC
  have hlt := hR.rdr.lt
  have hc0 : w.cell? ⟨rb, 0, none⟩ = some (.slice A d.length c) := hR.rdr.cell 0
  have hni : (n : Int) ≤ (d.length : Int) := by omega
  have hcap := hR.cap
  have o1 := byteCells_one d
  by_cases hcn : n = c
  · obtain rfl := hcn
    go_enter Try.func36, Try.ntmps36
    go_wp2_with (first
      | (with_reducible refine wpList_copy_rd rfl (.tmp 16) (.tmp 20) _ _ rfl 5 Try.underlying23 byteInfo1 base C n k q rfl hR.own A d.length _ (Lib.byteCells d) rfl hR.data o1 hn ?_
         intro w1 hown1 hg1
         have hrdr1 := hR.rdr.grown hg1 (Ne.symm f1)
         have hc1 : w1.cell? ⟨rb, 0, none⟩ = some (.slice A d.length _) := hrdr1.cell 0
         have hf1 : w1.frozen? ⟨rb, 0, none⟩ = false := hrdr1.frozen 0))
    go_ret
    have hz : d.length - n = 0 := by omega
    have hd0 : Rd w1 1 A 0 ((Lib.byteCells d).drop n) := ⟨by simp [Lib.byteCells_length]; omega, fun h => by omega⟩
    have he := readFull_end hR hn hown1 hg1 rfl hz hd0 (Nat.le_refl 0)
    exact ⟨A, 0, rfl, he.1, he.2, rfl⟩
  · have hcn' : ¬ c = n := by omega
    go_enter Try.func36, Try.ntmps36
    go_wp2_with (first
      | (with_reducible refine wpList_copy_rd rfl (.tmp 16) (.tmp 20) _ _ rfl 5 Try.underlying23 byteInfo1 base C n k q rfl hR.own A d.length _ (Lib.byteCells d) rfl hR.data o1 hn ?_
         intro w1 hown1 hg1
         have hrdr1 := hR.rdr.grown hg1 (Ne.symm f1)
         have hc1 : w1.cell? ⟨rb, 0, none⟩ = some (.slice A d.length _) := hrdr1.cell 0
         have hf1 : w1.frozen? ⟨rb, 0, none⟩ = false := hrdr1.frozen 0))
    go_ret
    have hd1 := (hR.data.cut hn).keeps ((Keeps.refl (fun i => ob C = some i) w).grown hg1 fun i hi => .inl hi) (fun i hi => by rw [ob_map] at hi; exact (hR.sep i hi).2.2.1)
    simp only [Nat.mul_one] at hd1
    have he := readFull_end hR hn hown1 hg1 (ob_map A n) rfl hd1 (c' := c - n) (by omega)
    exact ⟨_, _, rfl, he.1, he.2, ob_map A n⟩

/-- A reader, its inside left open: D is the block of the bytes that it reads, R that of its own row. -/
def RdrOn (w : World) (base rb bb : Nat) (D R : Option Nat) (d : List UInt8) : Prop :=
  ∃ A c C n k q, RdrAt w base rb bb A c d C n k q ∧ (ob A = D ∨ ob A = none) ∧ ob C = R
/-- A step of a reader: d is what is left. -/
structure RdrGo (w w' : World) (base rb bb : Nat) (D R : Option Nat) (d : List UInt8) : Prop where
  on : ∃ R', RdrOn w' base rb bb D R' d ∧ (R' = R ∨ ∀ i, R' = some i → w.heap.size ≤ i)
  keeps : Keeps (fun i => i = rb ∨ i = bb ∨ R = some i) w w'
theorem RdrOn.keeps {w w' : World} {base rb bb : Nat} {D R : Option Nat} {d : List UInt8} {S : Nat → Prop} (h : RdrOn w base rb bb D R d) (hk : Keeps S w w')
    (h1 : ¬ S rb) (h2 : ¬ S bb) (h3 : ∀ i, R = some i → ¬ S i) (h4 : ∀ i, D = some i → ¬ S i) : RdrOn w' base rb bb D R d := by
  obtain ⟨A, c, C, n, k, q, hR, hA, hC⟩ := h
  exact ⟨A, c, C, n, k, q, hR.keeps hk h1 h2 (fun i hi => h3 i (hC ▸ hi)) (fun i hi => by
    rcases hA with hA | hA
    · exact h4 i (hA ▸ hi)
    · rw [hA] at hi; cases hi), hA, hC⟩
theorem RdrOn.new {w w' : World} {base rb bb : Nat} {D R : Option Nat} {d : List UInt8} (h : RdrOn w base rb bb D R d) (hk : Keeps (fun _ => False) w w') : RdrOn w' base rb bb D R d :=
  h.keeps hk (fun h => h) (fun h => h) (fun _ _ h => h) (fun _ _ h => h)
theorem RdrOn.facts {w : World} {base rb bb : Nat} {D R : Option Nat} {d : List UInt8} (h : RdrOn w base rb bb D R d) : rb < w.heap.size ∧ bb < w.heap.size ∧ base ≤ rb ∧ base ≤ bb ∧ ∀ i, R = some i → base ≤ i ∧ i < w.heap.size := by
  obtain ⟨A, c, C, n, k, q, hR, hA, hC⟩ := h
  refine ⟨hR.rdr.lt, hR.blk.lt, hR.lo1, hR.lo2, ?_⟩
  have := hR.own.lt
  rw [ownBlock_slice, hC] at this
  exact this
theorem RdrGo.refl {w : World} {base rb bb : Nat} {D R : Option Nat} {d : List UInt8} (h : RdrOn w base rb bb D R d) : RdrGo w w base rb bb D R d := ⟨⟨R, h, .inl rfl⟩, Keeps.refl _ _⟩
theorem RdrGo.trans {w w1 w2 : World} {base rb bb : Nat} {D R R1 : Option Nat} {d2 : List UInt8} (hR : R1 = R ∨ ∀ i, R1 = some i → w.heap.size ≤ i) (hk : Keeps (fun i => i = rb ∨ i = bb ∨ R = some i) w w1)
    (h : RdrGo w1 w2 base rb bb D R1 d2) : RdrGo w w2 base rb bb D R d2 := by
  obtain ⟨R2, h1, h2⟩ := h.on
  refine ⟨⟨R2, h1, ?_⟩, hk.trans h.keeps ?_⟩
  · rcases h2 with rfl | h2
    · exact hR
    · exact .inr fun i hi => Nat.le_trans hk.size (h2 i hi)
  · rintro i hi (rfl | rfl | hs)
    · exact .inl rfl
    · exact .inr (.inl rfl)
    · rcases hR with rfl | hR
      · exact .inr (.inr hs)
      · exact absurd (hR i hs) (by omega)
theorem RdrGo.after {w w1 w2 : World} {base rb bb : Nat} {D R : Option Nat} {d : List UInt8} (h : RdrGo w w1 base rb bb D R d) (hk : Keeps (fun _ => False) w1 w2) : RdrGo w w2 base rb bb D R d := by
  obtain ⟨R1, h1, h2⟩ := h.on
  exact ⟨⟨R1, h1.new hk, h2⟩, h.keeps.trans hk fun _ _ h => h.elim⟩
theorem RdrGo.behind {w w1 w2 : World} {base rb bb : Nat} {D R : Option Nat} {d : List UInt8} (hk : Keeps (fun _ => False) w w1) (h : RdrGo w1 w2 base rb bb D R d) : RdrGo w w2 base rb bb D R d :=
  RdrGo.trans (.inl rfl) (hk.mono fun _ _ h => h.elim) h
theorem RdrGo.below {w w' : World} {base rb bb : Nat} {D R : Option Nat} {d d0 : List UInt8} (h : RdrGo w w' base rb bb D R d) (h0 : RdrOn w base rb bb D R d0) : Below base w w' := by
  obtain ⟨a, b, c, e, f⟩ := h0.facts
  exact h.keeps.below (by omega) (by
    rintro k (rfl | rfl | hk)
    · exact c
    · exact e
    · exact (f k hk).1)

set_option maxHeartbeats 400000 in
theorem readFull_ok (w : World) (base rb bb : Nat) (A : Option Addr) (c : Nat) (d : List UInt8) (C : Option Addr) (n k m : Nat) (q : List Value) (hR : RdrAt w base rb bb A c d C n k q) (hm : m ≤ d.length) (hM : m ≤ 140737488355328) :
    Calls Try.prog 31 #[.pointer (some ⟨rb, 0, none⟩), .int .i64 m] w fun e w' => ∃ A' c' C' k', e = .returned .nilIface ∧
      RdrAt w' base rb bb A' c' (d.drop m) C' m k' (Lib.byteCells (d.take m)) ∧ Keeps (RdrS rb bb C) w w' ∧ ob A' = ob A ∧ (ob C' = ob C ∨ ∀ i, ob C' = some i → w.heap.size ≤ i) := by
  have hc0 : w.cell? ⟨rb, 0, none⟩ = some (.slice A d.length c) := hR.rdr.cell 0
  have hc1 : w.cell? ⟨rb, 1, none⟩ = some (.pointer (some ⟨bb, 0, none⟩)) := hR.rdr.cell 1
  have hmi : (m : Int) ≤ (d.length : Int) := by omega
  go_enter Try.func31, Try.ntmps31
  go_wp2_with fail
  refine (ensure w base bb C n k m q hR.blk hR.own hR.lo2 hM).mono ?_
  rintro e w1 ⟨C1, k1, q1, rfl, hW1, hown1, hK1, hC1⟩
  obtain ⟨f1, f2, f3⟩ := hR.farC
  have hlt := hR.rdr.lt
  have hR1 : RdrAt w1 base rb bb A c d C1 m k1 q1 := ⟨hR.rdr.keeps hK1 f3, hW1, hown1, hR.data.keeps hK1 (fun i hi => (hR.sep i hi).2.1), hR.cap, hR.lo1, hR.lo2, fun i hi => by
    obtain ⟨a, b, e, f⟩ := hR.sep i hi
    refine ⟨a, b, ?_, Nat.lt_of_lt_of_le f hK1.size⟩
    rcases hC1 with h | h
    · rw [h]; exact e
    · rw [h]; intro h'; injection h' with h'; omega⟩
  have hc2 : w1.cell? ⟨rb, 1, none⟩ = some (.pointer (some ⟨bb, 0, none⟩)) := hR1.rdr.cell 1
  have hc3 : w1.cell? ⟨bb, 0, none⟩ = some (.slice C1 m k1) := hR1.blk.cell 0
  go_wp2_with fail
  refine (readFullInto w1 base rb bb A c d C1 m k1 q1 hR1 hm).mono ?_
  rintro e w2 ⟨A2, c2, rfl, hR2, hK2, hA2⟩
  go_wp2_with fail
  go_ret
  refine ⟨A2, c2, C1, k1, rfl, hR2, (hK1.mono (S' := RdrS rb bb C) (fun _ _ h => .inr (.inl h))).trans hK2 ?_, hA2, ?_⟩
  · rintro i hi (rfl | rfl | hs)
    · exact .inl rfl
    · exact .inr (.inl rfl)
    · rcases hC1 with h | h
      · exact .inr (.inr (h ▸ hs))
      · rw [h] at hs; injection hs with hs; omega
  · rcases hC1 with h | h
    · exact .inl h
    · refine .inr fun i hi => ?_
      rw [h] at hi; injection hi with hi; omega
end Go.Proofs.Ytfkokngjclaikaa
