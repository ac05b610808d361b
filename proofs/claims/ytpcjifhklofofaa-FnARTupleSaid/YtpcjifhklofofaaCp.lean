/- copy into the middle of a row of the call's own. Conditions: the part lies in the row; the source has as many elements at least. -/
import Derived.Test.YtpcjifhklofofaaRdr
namespace Go.Proofs.Ytpcjifhklofofaa
open Go.RowKit
set_option linter.unusedVariables false
theorem part_list {α : Type} (cur xs : List α) (n S m : Nat) (hn : n ≤ cur.length) (hS : S + m ≤ n) (hx : xs.length = m) :
    (cur.take S ++ xs ++ cur.drop (S + m)).take n = (cur.take n).take S ++ xs ++ (cur.take n).drop (S + m) := by
  have hl : (cur.take S ++ xs).length = S + m := by rw [List.length_append, List.length_take, hx]; omega
  rw [List.take_append, hl, List.take_of_length_le (by omega), List.take_take, Nat.min_eq_left (by omega), List.drop_take]
theorem run_copy_part {P : Program} (w : World) (dT sT ty e : TypeId) (hu : P.underlying dT = some (.slice e)) (hs : (P.info? e).map (·.size) = some 1) (base g n cap S m kc : Nat)
    (cells : List Value) (hown : w.ownsRow base e 1 (.slice (some ⟨g, 0, none⟩) n cap) n cells) (hS : S + m ≤ n) (A : Option Addr) (m' c : Nat) (xs : List Value) (hr : Rd w 1 A m' xs) (h1 : ∀ u ∈ xs, u.oneCell' = true) (hm : m ≤ m') :
    ∃ w', (Builtin.copy_ #[dT, sT] ty #[.slice (some ⟨g, S, none⟩) m kc, .slice A m' c]).run P w = .ok (goInt m) w' ∧ w'.ownsRow base e 1 (.slice (some ⟨g, 0, none⟩) n cap) n (cells.take S ++ xs.take m ++ cells.drop (S + m)) ∧ w.grownBy w' (some g) := by
  rcases Nat.eq_zero_or_pos m with h0 | h0
  · subst h0
    refine ⟨w, ?_, ?_, World.grownBy.refl w _⟩
    · have := run_copy_none (P := P) w dT sT ty e (some ⟨g, S, none⟩) A 0 kc m' c hu hs (by simp)
      simpa using this
    · simpa using hown
  · obtain ⟨ad, rfl, _, hc⟩ := hr.2 (by omega)
    have hxl : xs.length = m' := by have := hr.1; omega
    rcases hown.2 with ⟨h, _⟩ | ⟨g', cap', cur, h, hb, hg, hnc, hcm, hcs, hcur⟩
    · cases h
    · injection h with h1' _ h3
      injection h1' with h1'
      injection h1' with h1'
      subst h1' h3
      have hl : (xs.take m).length = m := by rw [List.length_take]; omega
      have hrun := run_copy_row (P := P) w dT sT ty e g S m kc ad m' c cur e (xs.take m) hu hs hg (by rw [hl]; show m = min m' m; omega) (fun j v hj => by
        rw [List.getElem?_take] at hj
        split at hj
        · exact hc j v hj
        · cases hj) (by rw [hl]; omega) (fun v hv => h1 v (List.mem_of_mem_take hv))
      rw [hl] at hrun
      rw [Nat.mul_one] at hcs hcur
      have hcl : cur.toList.length = cap := by rw [Array.length_toList]; exact hcs
      refine ⟨_, hrun, ⟨?_, .inr ⟨g, cap, _, rfl, hb, setRow_heap w g cur _ e _ hg, hnc, hcm, ?_, ?_⟩⟩, ⟨rfl, rfl, rfl, by simp, fun i _ hi => setRow_other w g i _ (fun e => hi (by rw [e]))⟩⟩
      · have := hown.1
        rw [List.length_append, List.length_append, List.length_take, List.length_drop, hl]
        omega
      · rw [List.size_toArray, List.length_append, List.length_append, List.length_take, List.length_drop, hl, hcl]
        omega
      · rw [Nat.mul_one, List.toList_toArray, part_list cur.toList (xs.take m) n S m (by omega) hS hl, hcur]
theorem wpList_copy_part {P : Program} {w : World} {ops : Array Oper} {rest : List Oper} {o : Oper} {a : Act} {Q : Exit → Act → World → Prop} (hgd : o.guard = none) (d s : Operand) (dT sT : TypeId)
    (ho : o.op = .call { callee := .builtin .copy, args := #[d, s], argTypes := #[dT, sT] }) (e : TypeId) (hu : P.underlying dT = some (.slice e)) (hs : (P.info? e).map (·.size) = some 1) (base g n cap S m kc : Nat)
    (cells : List Value) (hd : a.eval d = .slice (some ⟨g, S, none⟩) m kc) (hown : w.ownsRow base e 1 (.slice (some ⟨g, 0, none⟩) n cap) n cells) (hS : S + m ≤ n) (A : Option Addr) (m' c : Nat) (xs : List Value) (hx : a.eval s = .slice A m' c) (hr : Rd w 1 A m' xs) (h1 : ∀ u ∈ xs, u.oneCell' = true) (hm : m ≤ m')
    (h : ∀ w', w'.ownsRow base e 1 (.slice (some ⟨g, 0, none⟩) n cap) n (cells.take S ++ xs.take m ++ cells.drop (S + m)) → w.grownBy w' (some g) → wpList P ops Q rest (a.put o.dst (goInt m)) w') : wpList P ops Q (o :: rest) a w := by
  refine wpList_plain hgd fun K hK => ?_
  obtain ⟨w', hrun, h2, h3⟩ := run_copy_part (P := P) w dT sT o.type e hu hs base g n cap S m kc cells hown hS A m' c xs hr h1 hm
  unfold Oper.wp
  simp [execOp, ho, resolve, invoke, builtin, hd, hx, hrun, Result.andThen]
  exact hK _ _ (h w' h2 h3)
theorem RdrAt.cutTo {w : World} {base rb bb : Nat} {A : Option Addr} {c : Nat} {d : List UInt8} {C : Option Addr} {n k : Nat} {q : List Value} (h : RdrAt w base rb bb A c d C n k q) (m : Nat) (hm : m ≤ d.length) {A' : Option Addr} {l' c' : Nat} (hA : ob A' = ob A) (hl : d.length - m = l') (hdat : Rd w 1 A' l' ((Lib.byteCells d).drop m)) (hc : l' ≤ c') :
    RdrAt (w.setCell ⟨rb, 0, none⟩ (.slice A' l' c')) base rb bb A' c' (d.drop m) C n k q ∧ Keeps (fun i => i = rb) w (w.setCell ⟨rb, 0, none⟩ (.slice A' l' c')) := by
  subst hl
  obtain ⟨f1, f2, f3⟩ := h.farC
  have K := (Keeps.refl (fun i => i = rb) w).setCell (p := ⟨rb, 0, none⟩) (.inl rfl) (.slice A' (d.length - m) c')
  have hl : (d.drop m).length = d.length - m := by simp
  have hd1 : Lib.byteCells (d.drop m) = (Lib.byteCells d).drop m := by simp [Lib.byteCells, List.map_drop]
  refine ⟨⟨?_, h.blk.keeps K (by omega), own_keeps h.own K (fun i hi e => by rw [ownBlock_slice] at hi; subst e; exact f1 hi), ?_, by rw [hl]; exact hc, h.lo1, h.lo2, fun i hi => ?_⟩, K⟩
  · rw [hl]; exact h.rdr.put 0 _
  · rw [hd1, hl]
    exact hdat.keeps K (fun i hi e => by
      subst e
      rw [hA] at hi
      exact (h.sep i hi).1 rfl)
  · rw [hA] at hi
    obtain ⟨a, b, e, f⟩ := h.sep i hi
    exact ⟨a, b, e, Nat.lt_of_lt_of_le f K.size⟩
set_option maxRecDepth 100000 in
set_option maxHeartbeats 400000 in
theorem readFullPart (w : World) (base rb bb : Nat) (A : Option Addr) (c : Nat) (d : List UInt8) (C : Option Addr) (n k : Nat) (q : List Value) (b1 g N cap S m kc : Nat) (cells : List Value) (hR : RdrAt w base rb bb A c d C n k q) (hm : m ≤ d.length)
    (hown : w.ownsRow b1 5 1 (.slice (some ⟨g, 0, none⟩) N cap) N cells) (hS : S + m ≤ N) (g1 : g ≠ rb) (g2 : g ≠ bb) (g3 : ob C ≠ some g) (g4 : ob A ≠ some g) :
    Calls Try.prog 66 #[.pointer (some ⟨rb, 0, none⟩), .slice (some ⟨g, S, none⟩) m kc] w fun e w' => ∃ A' c', e = .returned .nilIface ∧
      RdrAt w' base rb bb A' c' (d.drop m) C n k q ∧ w'.ownsRow b1 5 1 (.slice (some ⟨g, 0, none⟩) N cap) N (cells.take S ++ Lib.byteCells (d.take m) ++ cells.drop (S + m)) ∧ Keeps (fun i => i = rb ∨ i = g) w w' ∧ ob A' = ob A := by
  have hlt := hR.rdr.lt
  have hc0 : w.cell? ⟨rb, 0, none⟩ = some (.slice A d.length c) := hR.rdr.cell 0
  have hni : (m : Int) ≤ (d.length : Int) := by omega
  have hcap := hR.cap
  have o1 := byteCells_one d
  have HO := Lib.hid hown
  have hbt : (Lib.byteCells d).take m = Lib.byteCells (d.take m) := by simp [Lib.byteCells, List.map_take]
  have HBT := Lib.hid hbt
  clear hown hbt
  by_cases hcn : m = c
  · obtain rfl := hcn
    go_enter Try.func66, Try.ntmps66
    go_wp2_with (first
      | (with_reducible refine wpList_copy_part rfl (.tmp 16) (.tmp 20) _ _ rfl 5 Try.underlying25 byteInfo1 b1 g N cap S m kc cells rfl HO.out hS A d.length _ (Lib.byteCells d) rfl hR.data o1 hm ?_
         intro w1 hown1 hg1
         have K1 : Keeps (fun i => i = g) w w1 := (Keeps.refl (fun i => i = g) w).grown hg1 (fun i hi => .inl (by injection hi with hi; exact hi.symm))
         have hrdr1 := hR.rdr.keeps K1 (Ne.symm g1)
         have hc1 : w1.cell? ⟨rb, 0, none⟩ = some (.slice A d.length _) := hrdr1.cell 0
         have hf1 : w1.frozen? ⟨rb, 0, none⟩ = false := hrdr1.frozen 0))
    go_ret
    have hR1 := hR.keeps K1 (Ne.symm g1) (Ne.symm g2) (fun i hi e => g3 (by rw [hi, e])) (fun i hi e => g4 (by rw [hi, e]))
    have hz : d.length - m = 0 := by omega
    have he := hR1.cutTo m hm rfl hz ⟨by simp [Lib.byteCells_length]; omega, fun h => by omega⟩ (Nat.le_refl 0)
    rw [HBT.out] at hown1
    exact ⟨A, 0, rfl, he.1, own_keeps hown1 he.2 (fun i hi e => by rw [ownBlock_slice] at hi; injection hi with hi; exact g1 (by rw [← e]; exact hi)), (K1.mono (S' := fun i => i = rb ∨ i = g) (fun _ _ h => .inr h)).trans he.2 (fun _ _ h => .inl h), rfl⟩
  · have hcn' : ¬ c = m := by omega
    go_enter Try.func66, Try.ntmps66
    go_wp2_with (first
      | (with_reducible refine wpList_copy_part rfl (.tmp 16) (.tmp 20) _ _ rfl 5 Try.underlying25 byteInfo1 b1 g N cap S m kc cells rfl HO.out hS A d.length _ (Lib.byteCells d) rfl hR.data o1 hm ?_
         intro w1 hown1 hg1
         have K1 : Keeps (fun i => i = g) w w1 := (Keeps.refl (fun i => i = g) w).grown hg1 (fun i hi => .inl (by injection hi with hi; exact hi.symm))
         have hrdr1 := hR.rdr.keeps K1 (Ne.symm g1)
         have hc1 : w1.cell? ⟨rb, 0, none⟩ = some (.slice A d.length _) := hrdr1.cell 0
         have hf1 : w1.frozen? ⟨rb, 0, none⟩ = false := hrdr1.frozen 0))
    go_ret
    have hR1 := hR.keeps K1 (Ne.symm g1) (Ne.symm g2) (fun i hi e => g3 (by rw [hi, e])) (fun i hi e => g4 (by rw [hi, e]))
    have hd1 := hR1.data.cut hm
    simp only [Nat.mul_one] at hd1
    have he := hR1.cutTo m hm (ob_map A m) rfl hd1 (c' := c - m) (by omega)
    rw [HBT.out] at hown1
    exact ⟨_, _, rfl, he.1, own_keeps hown1 he.2 (fun i hi e => by rw [ownBlock_slice] at hi; injection hi with hi; exact g1 (by rw [← e]; exact hi)), (K1.mono (S' := fun i => i = rb ∨ i = g) (fun _ _ h => .inr h)).trans he.2 (fun _ _ h => .inl h), ob_map A m⟩
set_option maxRecDepth 100000 in
set_option maxHeartbeats 400000 in
theorem readFullNone (w : World) (base rb bb : Nat) (A : Option Addr) (c : Nat) (d : List UInt8) (C : Option Addr) (n k : Nat) (q : List Value) (hR : RdrAt w base rb bb A c d C n k q) :
    Calls Try.prog 66 #[.pointer (some ⟨rb, 0, none⟩), .slice none 0 0] w fun e w' => ∃ A' c', e = .returned .nilIface ∧ RdrAt w' base rb bb A' c' d C n k q ∧ Keeps (fun i => i = rb) w w' ∧ ob A' = ob A := by
  have hlt := hR.rdr.lt
  have hc0 : w.cell? ⟨rb, 0, none⟩ = some (.slice A d.length c) := hR.rdr.cell 0
  have hf0 : w.frozen? ⟨rb, 0, none⟩ = false := hR.rdr.frozen 0
  have hcap := hR.cap
  have hcp : ∀ (ty : TypeId) (W : World), (Builtin.copy_ #[25, 25] ty #[.slice none 0 0, .slice A d.length c]).run Try.prog W = .ok (goInt 0) W := fun ty W => by
    have := run_copy_none (P := Try.prog) W 25 25 ty 5 none A 0 0 d.length c Try.underlying25 byteInfo1 (by simp)
    simpa using this
  have hcut := hR.data.cut (k := 0) (Nat.zero_le _)
  simp only [Nat.mul_one, Nat.sub_zero] at hcut
  go_enter Try.func66, Try.ntmps66
  go_wp2_with fail
  go_ret
  have he := hR.cutTo 0 (Nat.zero_le _) (A' := A) (l' := d.length) (c' := c) rfl rfl hR.data hcap
  exact ⟨A, c, rfl, he.1, he.2, rfl⟩
end Go.Proofs.Ytpcjifhklofofaa
